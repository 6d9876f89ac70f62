/-
  FnExactGLoad: the whole statement: it returns true whatever the input is, and the arguments read as before. No condition.
-/
import Derived.Test.YtdffddiaoheklaaZ0b558072
import Derived.Test.YtdffddiaoheklaaZA
import Derived.Test.YtdffddiaoheklaaZ0901c13d
import Derived.Test.YtdffddiaoheklaaZ08efe43d
/-
  The search in a node of a tree, with a hint or without one. No condition.
-/
set_option linter.unusedSimpArgs false
set_option linter.unusedVariables false
namespace Go.Proofs.Ytdffddiaoheklaa
open Go Go.Proofs
/-- A hint's cells. -/
structure HintAt (w : World) (hb : Nat) : Prop where
  wok : wok w hb 16
  used : ∀ i, i < 8 → ∃ u : Bool, rd w hb i = some (.bool u)
  path : ∀ i, i < 8 → ∃ p : Nat, p < 256 ∧ rd w hb (8 + i) = some (.int .u8 p)
theorem HintAt.ext {w w' : World} {G : Nat → Nat → Prop} {hb : Nat} (h : HintAt w hb) (x : Ext G w w') (hG : ∀ o, ¬ G hb o) : HintAt w' hb :=
  ⟨x.wok h.wok, fun i hi => (h.used i hi).imp fun _ g => x.rd g (hG _), fun i hi => (h.path i hi).imp fun _ g => ⟨g.1, x.rd g.2 (hG _)⟩⟩
theorem HintAt.setU {w w' : World} {hb i : Nat} {u : Bool} (h : HintAt w hb) (x : Ext (rng hb i 1) w w') (r : rd w' hb i = some (.bool u)) (hi : i < 8) : HintAt w' hb :=
  ⟨x.wok h.wok, fun j hj => by
    by_cases hij : j = i
    · subst hij; exact ⟨u, r⟩
    · exact (h.used j hj).imp fun _ g => x.rd g (by simp only [rng]; omega), fun j hj => (h.path j hj).imp fun _ g => ⟨g.1, x.rd g.2 (by simp only [rng]; omega)⟩⟩
theorem HintAt.setP {w w' : World} {hb i p : Nat} (h : HintAt w hb) (x : Ext (rng hb (8 + i) 1) w w') (r : rd w' hb (8 + i) = some (.int .u8 p)) (hp : p < 256) : HintAt w' hb :=
  ⟨x.wok h.wok, fun j hj => (h.used j hj).imp fun _ g => x.rd g (by simp only [rng]; omega), fun j hj => by
    by_cases hij : j = i
    · subst hij; exact ⟨p, hp, r⟩
    · exact (h.path j hj).imp fun _ g => ⟨g.1, x.rd g.2 (by simp only [rng]; omega)⟩⟩
/-- The cells of a hint, if there is one. -/
def hF (hp : Option Nat) : Nat → Nat → Prop := fun y _ => hp = some y
def hV (hp : Option Nat) : Value := .pointer (hp.map fun b => ⟨b, 0, none⟩)
theorem hV_none : hV none = .pointer none := id (Eq.trans rfl rfl)
theorem hV_some (b : Nat) : hV (some b) = ptr b := id (Eq.trans rfl rfl)
def HOk (hp : Option Nat) (w : World) : Prop := ∀ hb, hp = some hb → HintAt w hb
theorem HOk.ext {w w' : World} {G : Nat → Nat → Prop} {hp : Option Nat} (h : HOk hp w) (x : Ext G w w') (hG : ∀ hb, hp = some hb → ∀ o, ¬ G hb o) : HOk hp w' := fun hb e => (h hb e).ext x (hG hb e)
theorem HOk.ext0 {w w' : World} {hp : Option Nat} (h : HOk hp w) (x : Ext noF w w') : HOk hp w' := h.ext x fun _ _ _ g => g
theorem HOk.none (w : World) : HOk none w := fun _ h => by cases h
theorem u8_of (n : Int) : ∃ p : Nat, IntKind.u8.wrap n = p ∧ p < 256 := by
  have h1 : 0 ≤ IntKind.u8.wrap n := by rw [IntKind.wrap_u8]; omega
  have h2 : IntKind.u8.wrap n < 256 := by rw [IntKind.wrap_u8]; omega
  exact ⟨(IntKind.u8.wrap n).toNat, by omega, by omega⟩
set_option maxHeartbeats 400000 in
set_option maxRecDepth 8000 in
theorem less_any (B m : Nat) (ord : List Int) (a b : It) (w : World) (hL : Ls B m w ord) :
    CallK Try.prog 109 #[ptr m, itV a, itV b] w fun v w' => v = .bool (O.lt (rkI ord a) (rkI ord b)) ∧ Ext noF w w' := by
  refine calls_of_W [.tmp 6] Try.func109 rfl Try.ntmps109 Try.results109 (by simp) fun e he => ?_
  have e0 : e 0 = ptr m := he 0 _ rfl
  have e1 : e 1 = itV a := he 1 _ rfl
  have e2 : e 2 = itV b := he 2 _ rfl
  clear he
  refine W_sq fun K hK => (W_text [false, false, true] (by kernel_rfl) ?_); simp only [↓List.toList_toArray, ↓rgd, ↓rgf, ↓reduceIte, Nat.reduceEqDiff, rg, ow_109]
  refine do_box (by simp only [evt]; exact e1) fun w1 n1 => ⟨trivial, ?_⟩
  simp only [↓List.toList_toArray, ↓rgd, ↓rgf, ↓reduceIte, Nat.reduceEqDiff, rg, ow_109]
  refine do_box (by simp only [evt, upd_eq, Nat.reduceEqDiff, ↓reduceIte]; exact e2) fun w2 n2 => ⟨trivial, ?_⟩
  simp only [↓List.toList_toArray, ↓rgd, ↓rgf, ↓reduceIte, Nat.reduceEqDiff, rg, ow_109]
  refine hK _ _ ?_; clear hK K
  have s1 := n1.size
  have X2 : Ext noF w w2 := n1.ext.tr n2.ext
  have ra := iX_at (n2.ext.row (show Row w1 w.heap.size 0 (E.cel a) from n1.row) fun _ _ h => h)
  have rb := iX_at (show Row w2 w1.heap.size 0 (E.cel b) from n2.row)
  obtain ⟨lv, hlv, hless, hBm⟩ := id (hL.ext0 X2)
  have A1 := in1 m w.heap.size w1.heap.size w.heap.size
  have A2 := in2 m w.heap.size w1.heap.size w.heap.size
  have A3 := in3 m w.heap.size w1.heap.size w.heap.size
  have hml := rd_lt hlv
  have s2 := n2.size
  refine W_sq fun K hK => (W_draw (some (some [m, w.heap.size, w1.heap.size, w.heap.size])) none [(0, 0, 0), (0, 1, 0), (0, 2, 0), (0, 3, 0), (0, 4, 0), (0, 5, 0), (1, 6, 0), (0, 7, 0)] mixed (by kernel_rfl) ?_); simp only [↓List.toList_toArray, ↓rgd, ↓rgf, ↓reduceIte, Nat.reduceEqDiff, rg, ow_109, e0, ptr_eq, hlv, ra, rb, A1, A2, A3]
  refine do_callW (by simp only [evt, evc, upd_eq, Nat.reduceEqDiff, ↓reduceIte, ntT, ntF] <;> rfl) (by simp only [evt, evc, upd_eq, Nat.reduceEqDiff, ↓reduceIte, maT, maC, maN, isnN, isnS] <;> rfl) (before_any B lv ord a b _ (hless.ext (Ext.dr noF _ _) fun _ _ g => g.elim)) ?_
  rintro _ w3 ⟨rfl, x3⟩
  refine ⟨.inr (keep4 x3 ⟨by rw [sz_dr]; omega, fun _ g => g⟩ ⟨by rw [sz_dr]; omega, fun _ g => g⟩ ⟨by rw [sz_dr]; omega, fun _ g => g⟩ ⟨by rw [sz_dr]; omega, fun _ g => g⟩), ?_⟩
  simp only [↓List.toList_toArray, ↓rgd, ↓rgf, ↓reduceIte, Nat.reduceEqDiff, rg, ow_109]
  refine hK _ _ ?_; clear hK K
  exact W_ret (endQ_1 (by simp only [upd_eq, Nat.reduceEqDiff, ↓reduceIte] <;> rfl) ⟨rfl, X2.tr x3.od⟩)
set_option maxHeartbeats 400000 in
theorem hi_sub (hi : Nat) (h : hi < 4611686018427387904) : IntKind.i64.wrap ((hi : Int) - 1) = (hi : Int) - 1 := IntWalk.i64_in _ (by omega)
theorem hi_add (hi : Nat) (h : hi < 4611686018427387904) : IntKind.i64.wrap ((hi : Int) - 1 + 1) = (hi : Int) := by rw [IntWalk.i64_in _ (by omega)]; omega
theorem u8_i64 (p : Nat) (h : p < 256) : IntKind.i64.wrap (p : Int) = p := IntWalk.i64_in _ (by omega)
set_option maxHeartbeats 1600000 in
set_option maxRecDepth 8000 in
theorem hint_any (B m b bi oi cap : Nat) (ord : List Int) (ks : List It) (x : It) (ch : Option Addr) (hb dep : Nat) (w : World) (hL : Ls B m w ord) (h2 : rd w b 2 = some (.slice (some ⟨bi, oi, none⟩) ks.length cap)) (h3 : rd w b 3 = some (.pointer ch))
    (row : Row w bi oi (flat E ks)) (hbi : bi < w.heap.size) (hlen : ks.length < 4611686018427387904) (hpos : 0 < ks.length) (ha : Asc O (rkI ord) ks) (hH : HintAt w hb) (hne : hb ≠ b) :
    CallK Try.prog 123 #[ptr m, ptr b, itV x, ptr hb, .int .i64 dep] w fun v w' => v = srchG ord ks x ∧ Ext (hF (some hb)) w w' ∧ HintAt w' hb := by
  refine calls_of_W [.tmp 10, .tmp 11] Try.func123 rfl Try.ntmps123 Try.results123 (by simp) fun e he => ?_
  have e0 : e 0 = ptr m := he 0 _ rfl
  have e1 : e 1 = ptr b := he 1 _ rfl
  have e2 : e 2 = itV x := he 2 _ rfl
  have e3 : e 3 = ptr hb := he 3 _ rfl
  have e4 : e 4 = .int .i64 dep := he 4 _ rfl
  clear he
  refine W_sq fun K hK => (W_text [false, true, true] (by kernel_rfl) ?_); simp only [↓List.toList_toArray, ↓rgd, ↓rgf, ↓reduceIte, Nat.reduceEqDiff, rg, ow_123]
  refine do_box (by simp only [evt]; exact e2) fun w1 n1 => ⟨trivial, ?_⟩
  simp only [↓List.toList_toArray, ↓rgd, ↓rgf, ↓reduceIte, Nat.reduceEqDiff, rg, ow_123]
  refine hK _ _ ?_; clear hK K
  have s1 := n1.size
  have bx1 : Row w1 w.heap.size 0 (E.cel x) := n1.row
  have h2 := n1.ext.rd h2 fun g => g
  have h3 := n1.ext.rd h3 fun g => g
  have row := n1.ext.row row fun _ _ g => g
  have hL := hL.ext0 n1.ext
  have hbl := rd_lt h2
  have hH := hH.ext n1.ext fun _ g => g
  have hhl := wok_lt hH.wok
  have X1 := n1.ext
  clear n1
  obtain ⟨q, hq⟩ : ∃ q, q = w.heap.size := ⟨_, rfl⟩
  rw [← hq] at bx1 s1 ⊢
  obtain ⟨-, -, -, hBm⟩ := id hL
  have hml : m < w1.heap.size := by obtain ⟨lv, hlv, -⟩ := id hL; exact rd_lt hlv
  refine W_fwd 0 (fun e w' => Ext noF w1 w' ∧ e 1 = ptr b ∧ e 3 = ptr hb ∧ e 4 = .int .i64 dep ∧ e 10 = .int .i64 (lb O (rkI ord) (rkI ord x) ks : Nat) ∧ e 11 = .bool (hit O (rkI ord) (rkI ord x) ks)) rfl ?_ ?_
  · clear e0 e1 e2 e3 e4 e
    rintro e w' ⟨XW, e1, e3, e4, e10, e11⟩
    have XX : Ext noF w w' := X1.tr XW
    have hH' := hH.ext XW fun _ g => g
    have h3' := XW.rd h3 fun g => g
    have h2' := XW.rd h2 fun g => g
    have hn0 : ∀ o, ¬ rng hb o 1 b 3 := fun o g => hne g.1.symm
    refine W_sqx fun K hK => ?_
    have hend : ∀ (e : Env) (w2 : World), e 10 = .int .i64 (lb O (rkI ord) (rkI ord x) ks : Nat) → e 11 = .bool (hit O (rkI ord) (rkI ord x) ks) → Ext (hF (some hb)) w w2 → HintAt w2 hb → K e w2 := by
      intro e w2 e10 e11 X H
      refine hK _ _ ?_; clear hK K
      refine W_sq fun K hK => (W_text [true, true, true, true] (by kernel_rfl) ?_); simp only [↓List.toList_toArray, ↓rgd, ↓rgf, ↓reduceIte, Nat.reduceEqDiff, rg, ow_123, e10, e11]
      refine hK _ _ ?_; clear hK K
      refine W_ret ?_
      rw [jump_ret]
      exact endQ_2 (by simp only [upd_eq, Nat.reduceEqDiff, ↓reduceIte]) (by simp only [upd_eq, Nat.reduceEqDiff, ↓reduceIte]) ⟨rfl, X.tr (Ext.dr _ _ _), H.ext (Ext.dr noF _ _) fun _ g => g⟩
    clear hK
    have XH : Ext (hF (some hb)) w w' := XX.mono fun _ _ _ g => g.elim
    by_cases hd : dep < 8
    · have td : decide ((dep : Int) < 8) = true := by simp; omega
      refine W_sq fun K hK => (W_text [true, true] (by kernel_rfl) ?_); simp only [↓List.toList_toArray, ↓rgd, ↓rgf, ↓reduceIte, Nat.reduceEqDiff, rg, ow_123, e4, td]
      refine hK _ _ ?_; clear hK K
      refine W_true (by simp only [evt, evc, upd_eq, Nat.reduceEqDiff, ↓reduceIte, ntT, ntF] <;> rfl) ?_
      refine W_sq fun K hK => (W_text [true, true, true, true, true, false] (by kernel_rfl) ?_); simp only [↓List.toList_toArray, ↓rgd, ↓rgf, ↓reduceIte, Nat.reduceEqDiff, rg, ow_123, e3, e4, ptr_eq, idx_ar, idxA_s, hd]
      refine do_store (v := .bool true) (by simp only [evt, evc, upd_eq, Nat.reduceEqDiff, ↓reduceIte, ntT, ntF] <;> rfl) (by simp only [evt, evc, upd_eq, Nat.reduceEqDiff, ↓reduceIte, ntT, ntF] <;> rfl) sz_4 rfl hH'.wok (by omega) (oc_one rfl rfl) fun w2 x2 r2 s2 => ⟨trivial, ?_⟩
      simp only [↓List.toList_toArray, ↓rgd, ↓rgf, ↓reduceIte, Nat.reduceEqDiff, rg, ow_123]
      refine hK _ _ ?_; clear hK K
      have hH2 := hH'.setU x2 (Row.cons.1 r2).1 hd
      have XH2 := XH.trans x2 (fun _ _ g => g) fun y o _ g => (show hF (some hb) y o from by rw [g.1]; rfl)
      have h3'' : rd w2 b 3 = some (.pointer ch) := x2.rd h3' fun g => hne g.1.symm
      refine W_sq fun K hK => (W_text [true] (by kernel_rfl) ?_); simp only [↓List.toList_toArray, ↓rgd, ↓rgf, ↓reduceIte, Nat.reduceEqDiff, rg, ow_123]
      refine hK _ _ ?_; clear hK K
      refine W_sqx fun K hK => ?_
      have hst : ∀ (e : Env) (k p : Nat), p < 256 → e 3 = ptr hb → e 4 = .int .i64 dep → e 10 = .int .i64 (lb O (rkI ord) (rkI ord x) ks : Nat) → e 11 = .bool (hit O (rkI ord) (rkI ord x) ks) → e 15 = .int .u8 p → K e (dr w2 k) := by
        intro e k p hp e3 e4 e10 e11 e15
        refine hK _ _ ?_; clear hK K
        obtain ⟨p0, hp0, hr0⟩ := hH2.path dep hd
        by_cases hpe : p = p0
        · have tp : ((p : Int) != (p0 : Int)) = false := by simp; omega
          refine W_sq fun K hK => (W_text [true, true, true, true, true, true, true, true] (by kernel_rfl) ?_); simp only [↓List.toList_toArray, ↓rgd, ↓rgf, ↓reduceIte, Nat.reduceEqDiff, rg, ow_123, e3, e4, e15, ptr_eq, idx_ar, idxA_s, hd, hr0, tp]
          refine hK _ _ ?_; clear hK K
          refine W_false (by simp only [evt, evc, upd_eq, Nat.reduceEqDiff, ↓reduceIte, ntT, ntF] <;> rfl) (W_skip ?_)
          simp only [andThen_normal]
          exact hend _ _ (by simp only [upd_eq, Nat.reduceEqDiff, ↓reduceIte]; exact e10) (by simp only [upd_eq, Nat.reduceEqDiff, ↓reduceIte]; exact e11) (XH2.tr (Ext.dr _ _ _)) (hH2.ext (Ext.dr noF _ _) fun _ g => g)
        · have tp : ((p : Int) != (p0 : Int)) = true := by simp; omega
          refine W_sq fun K hK => (W_text [true, true, true, true, true, true, true, true] (by kernel_rfl) ?_); simp only [↓List.toList_toArray, ↓rgd, ↓rgf, ↓reduceIte, Nat.reduceEqDiff, rg, ow_123, e3, e4, e15, ptr_eq, idx_ar, idxA_s, hd, hr0, tp]
          refine hK _ _ ?_; clear hK K
          refine W_true (by simp only [evt, evc, upd_eq, Nat.reduceEqDiff, ↓reduceIte, ntT, ntF] <;> rfl) ?_
          refine W_sq fun K hK => (W_text [true, true, true, true, true, true, false] (by kernel_rfl) ?_); simp only [↓List.toList_toArray, ↓rgd, ↓rgf, ↓reduceIte, Nat.reduceEqDiff, rg, ow_123, e3, e4, e15, ptr_eq, idx_ar, idxA_s, hd]
          refine do_store (v := .int .u8 p) (by simp only [evt, evc, upd_eq, Nat.reduceEqDiff, ↓reduceIte, ntT, ntF] <;> rfl) (by simp only [evt, evc, upd_eq, Nat.reduceEqDiff, ↓reduceIte, ntT, ntF] <;> rfl) sz_5 rfl hH2.wok (by omega) (oc_one rfl rfl) fun w3 x3 r3 s3 => ⟨trivial, ?_⟩
          simp only [↓List.toList_toArray, ↓rgd, ↓rgf, ↓reduceIte, Nat.reduceEqDiff, rg, ow_123]
          refine hK _ _ ?_; clear hK K
          have hH3 := hH2.setP x3.od (Row.cons.1 r3).1 hp
          have XH3 := XH2.trans x3.od (fun _ _ g => g) fun y o _ g => (show hF (some hb) y o from by rw [g.1]; rfl)
          have q1 := wadd1 dep (by omega)
          refine W_sq fun K hK => (W_text [true, true, true] (by kernel_rfl) ?_); simp only [↓List.toList_toArray, ↓rgd, ↓rgf, ↓reduceIte, Nat.reduceEqDiff, rg, ow_123, e4, q1]
          refine hK _ _ ?_; clear hK K
          refine W_block (W_loop (fun mm e w' => ∃ i : Nat, mm = 8 - i ∧ e 3 = ptr hb ∧ e 10 = .int .i64 (lb O (rkI ord) (rkI ord x) ks : Nat) ∧ e 11 = .bool (hit O (rkI ord) (rkI ord x) ks) ∧ e 16 = .int .i64 i ∧ Ext (hF (some hb)) w w' ∧ HintAt w' hb)
            (8 - (dep + 1)) ⟨dep + 1, rfl, by simp only [upd_eq, Nat.reduceEqDiff, ↓reduceIte]; exact e3, by simp only [upd_eq, Nat.reduceEqDiff, ↓reduceIte]; exact e10, by simp only [upd_eq, Nat.reduceEqDiff, ↓reduceIte]; exact e11, by simp only [upd_eq, Nat.reduceEqDiff, ↓reduceIte], XH3.tr (Ext.dr _ _ _), hH3.ext (Ext.dr noF _ _) fun _ g => g⟩ ?_)
          clear e3 e4 e10 e11 e15 e XH3 hH3 XH2
          rintro mm e w' ⟨i, rfl, e3, e10, e11, e16, XL, hL'⟩
          refine W_seq ?_
          by_cases hi : i < 8
          · have ti : decide ((i : Int) < 8) = true := by simp; omega
            refine W_sq fun K hK => (W_text [true, true] (by kernel_rfl) ?_); simp only [↓List.toList_toArray, ↓rgd, ↓rgf, ↓reduceIte, Nat.reduceEqDiff, rg, ow_123, e16, ti]
            refine hK _ _ ?_; clear hK K
            refine W_true (by simp only [evt, evc, upd_eq, Nat.reduceEqDiff, ↓reduceIte, ntT, ntF] <;> rfl) (W_skip ?_)
            show W _ _ _ _ _ _
            refine W_seq (W_block ?_)
            refine W_rg fun K hK => (W_text [true, true, true, true, true, false] (by kernel_rfl) ?_); simp only [↓List.toList_toArray, ↓rgd, ↓rgf, ↓reduceIte, Nat.reduceEqDiff, rg, ow_123, e3, e16, ptr_eq, idx_ar, idxA_s, hi]
            refine do_store (v := .bool false) (by simp only [evt, evc, upd_eq, Nat.reduceEqDiff, ↓reduceIte, ntT, ntF] <;> rfl) (by simp only [evt, evc, upd_eq, Nat.reduceEqDiff, ↓reduceIte, ntT, ntF] <;> rfl) sz_4 rfl hL'.wok (by omega) (oc_one rfl rfl) fun w4 x4 r4 s4 => ⟨trivial, ?_⟩
            simp only [↓List.toList_toArray, ↓rgd, ↓rgf, ↓reduceIte, Nat.reduceEqDiff, rg, ow_123]
            refine hK _ _ ?_; clear hK K
            show W _ _ _ _ _ _
            have q2 := wadd1 i (by omega)
            refine W_rg fun K hK => (W_text [true, true, true] (by kernel_rfl) ?_); simp only [↓List.toList_toArray, ↓rgd, ↓rgf, ↓reduceIte, Nat.reduceEqDiff, rg, ow_123, e16, q2]
            refine hK _ _ ?_; clear hK K
            refine ⟨_, ?_, i + 1, rfl, by simp only [upd_eq, Nat.reduceEqDiff, ↓reduceIte]; exact e3, by simp only [upd_eq, Nat.reduceEqDiff, ↓reduceIte]; exact e10, by simp only [upd_eq, Nat.reduceEqDiff, ↓reduceIte]; exact e11, by simp only [upd_eq, Nat.reduceEqDiff, ↓reduceIte], (XL.trans x4.od (fun _ _ g => g) fun y o _ g => (show hF (some hb) y o from by rw [g.1]; rfl)).tr (Ext.dr _ _ _), (hL'.setU x4.od (Row.cons.1 r4).1 hi).ext (Ext.dr noF _ _) fun _ g => g⟩
            omega
          · have ti : decide ((i : Int) < 8) = false := by simp; omega
            refine W_sq fun K hK => (W_text [true, true] (by kernel_rfl) ?_); simp only [↓List.toList_toArray, ↓rgd, ↓rgf, ↓reduceIte, Nat.reduceEqDiff, rg, ow_123, e16, ti]
            refine hK _ _ ?_; clear hK K
            refine W_false (by simp only [evt, evc, upd_eq, Nat.reduceEqDiff, ↓reduceIte, ntT, ntF] <;> rfl) (W_exit ?_)
            simp only [andThen_exit, inBlk_exit, andThen_normal, ↓reduceIte]
            exact hend _ _ (by simp only [upd_eq, Nat.reduceEqDiff, ↓reduceIte]; exact e10) (by simp only [upd_eq, Nat.reduceEqDiff, ↓reduceIte]; exact e11) (XL.tr (Ext.dr _ _ _)) (hL'.ext (Ext.dr noF _ _) fun _ g => g)
      clear hK
      obtain ⟨p1, hp1, hp1'⟩ := u8_of (IntKind.i64.wrap ((lb O (rkI ord) (rkI ord x) ks : Nat) + 1))
      obtain ⟨p2, hp2, hp2'⟩ := u8_of (lb O (rkI ord) (rkI ord x) ks : Nat)
      cases hci : ch.isNone with
      | true =>
        refine W_sq fun K hK => (W_text [true, false, true, true, true] (by kernel_rfl) ?_); simp only [↓List.toList_toArray, ↓rgd, ↓rgf, ↓reduceIte, Nat.reduceEqDiff, rg, ow_123, e1]
        refine do_call fn_108 (by simp only [evt, evc, upd_eq, Nat.reduceEqDiff, ↓reduceIte, maT, maC, maN, isnN, isnS] <;> rfl) (leaf_any b ch w2 h3'') ?_
        rintro _ w3 ⟨rfl, hw3⟩
        obtain rfl : w2 = w3 := hw3.symm
        refine ⟨trivial, ?_⟩
        cases hht : hit O (rkI ord) (rkI ord x) ks with
        | true =>
          simp only [↓List.toList_toArray, ↓rgd, ↓rgf, ↓reduceIte, Nat.reduceEqDiff, rg, ow_123, hci, e11, hht]
          refine hK _ _ ?_; clear hK K
          refine W_true (by simp only [evt, evc, upd_eq, Nat.reduceEqDiff, ↓reduceIte, ntT, ntF] <;> rfl) ?_
          refine W_rg fun K hK => (W_text [true, true, true, true] (by kernel_rfl) ?_); simp only [↓List.toList_toArray, ↓rgd, ↓rgf, ↓reduceIte, Nat.reduceEqDiff, rg, ow_123, e10, hp1]
          refine hK _ _ ?_; clear hK K
          simp only [andThen_normal]
          exact hst _ _ p1 hp1' (by simp only [upd_eq, Nat.reduceEqDiff, ↓reduceIte]; exact e3) (by simp only [upd_eq, Nat.reduceEqDiff, ↓reduceIte]; exact e4) (by simp only [upd_eq, Nat.reduceEqDiff, ↓reduceIte]; exact e10) (by simp only [upd_eq, Nat.reduceEqDiff, ↓reduceIte]; exact e11) (by simp only [upd_eq, Nat.reduceEqDiff, ↓reduceIte])
        | false =>
          simp only [↓List.toList_toArray, ↓rgd, ↓rgf, ↓reduceIte, Nat.reduceEqDiff, rg, ow_123, hci, e11, hht]
          refine hK _ _ ?_; clear hK K
          refine W_false (by simp only [evt, evc, upd_eq, Nat.reduceEqDiff, ↓reduceIte, ntT, ntF] <;> rfl) ?_
          refine W_rg fun K hK => (W_text [true, true, true] (by kernel_rfl) ?_); simp only [↓List.toList_toArray, ↓rgd, ↓rgf, ↓reduceIte, Nat.reduceEqDiff, rg, ow_123, e10, hp2]
          refine hK _ _ ?_; clear hK K
          simp only [andThen_normal]
          exact hst _ _ p2 hp2' (by simp only [upd_eq, Nat.reduceEqDiff, ↓reduceIte]; exact e3) (by simp only [upd_eq, Nat.reduceEqDiff, ↓reduceIte]; exact e4) (by simp only [upd_eq, Nat.reduceEqDiff, ↓reduceIte]; exact e10) (by simp only [upd_eq, Nat.reduceEqDiff, ↓reduceIte]; exact e11) (by simp only [upd_eq, Nat.reduceEqDiff, ↓reduceIte])
      | false =>
        refine W_sq fun K hK => (W_text [true, false, true, true, true] (by kernel_rfl) ?_); simp only [↓List.toList_toArray, ↓rgd, ↓rgf, ↓reduceIte, Nat.reduceEqDiff, rg, ow_123, e1]
        refine do_call fn_108 (by simp only [evt, evc, upd_eq, Nat.reduceEqDiff, ↓reduceIte, maT, maC, maN, isnN, isnS] <;> rfl) (leaf_any b ch w2 h3'') ?_
        rintro _ w3 ⟨rfl, hw3⟩
        obtain rfl : w2 = w3 := hw3.symm
        refine ⟨trivial, ?_⟩
        simp only [↓List.toList_toArray, ↓rgd, ↓rgf, ↓reduceIte, Nat.reduceEqDiff, rg, ow_123, hci]
        refine hK _ _ ?_; clear hK K
        refine W_false (by simp only [evt, evc, upd_eq, Nat.reduceEqDiff, ↓reduceIte, ntT, ntF] <;> rfl) ?_
        refine W_rg fun K hK => (W_text [true, true, true] (by kernel_rfl) ?_); simp only [↓List.toList_toArray, ↓rgd, ↓rgf, ↓reduceIte, Nat.reduceEqDiff, rg, ow_123, e10, hp2]
        refine hK _ _ ?_; clear hK K
        simp only [andThen_normal]
        exact hst _ _ p2 hp2' (by simp only [upd_eq, Nat.reduceEqDiff, ↓reduceIte]; exact e3) (by simp only [upd_eq, Nat.reduceEqDiff, ↓reduceIte]; exact e4) (by simp only [upd_eq, Nat.reduceEqDiff, ↓reduceIte]; exact e10) (by simp only [upd_eq, Nat.reduceEqDiff, ↓reduceIte]; exact e11) (by simp only [upd_eq, Nat.reduceEqDiff, ↓reduceIte])
    · have td : decide ((dep : Int) < 8) = false := by simp; omega
      refine W_sq fun K hK => (W_text [true, true] (by kernel_rfl) ?_); simp only [↓List.toList_toArray, ↓rgd, ↓rgf, ↓reduceIte, Nat.reduceEqDiff, rg, ow_123, e4, td]
      refine hK _ _ ?_; clear hK K
      refine W_false (by simp only [evt, evc, upd_eq, Nat.reduceEqDiff, ↓reduceIte, ntT, ntF] <;> rfl) (W_skip ?_)
      simp only [andThen_normal]
      exact hend _ _ (by simp only [upd_eq, Nat.reduceEqDiff, ↓reduceIte]; exact e10) (by simp only [upd_eq, Nat.reduceEqDiff, ↓reduceIte]; exact e11) (XH.tr (Ext.dr _ _ _)) (hH'.ext (Ext.dr noF _ _) fun _ g => g)
  · intro hon
    refine W_sq fun K hK => (W_text [true] (by kernel_rfl) ?_); simp only [↓List.toList_toArray, ↓rgd, ↓rgf, ↓reduceIte, Nat.reduceEqDiff, rg, ow_123]
    refine hK _ _ ?_; clear hK K
    have q0 := hi_sub ks.length hlen
    refine W_sq fun K hK => (W_text [true, true, true, true, true, true, true] (by kernel_rfl) ?_); simp only [↓List.toList_toArray, ↓rgd, ↓rgf, ↓reduceIte, Nat.reduceEqDiff, rg, ow_123, e1, ptr_eq, h2, q0]
    refine hK _ _ ?_; clear hK K
    refine W_sqx fun K hK => ?_
    have hloop : ∀ (e : Env) (w' : World) (lo hi : Nat), Ext noF w1 w' → lo ≤ hi → hi ≤ ks.length → e 0 = ptr m → e 1 = ptr b → e 3 = ptr hb → e 4 = .int .i64 dep → e 7 = ptr q → e 12 = .int .i64 lo → e 13 = .int .i64 ((hi : Int) - 1) →
        (∀ i y, i < lo → ks[i]? = some y → O.lt (rkI ord x) (rkI ord y) = false) → (∀ i y, hi ≤ i → ks[i]? = some y → O.lt (rkI ord x) (rkI ord y) = true) → K e w' := by
      clear e0 e1 e2 e3 e4 e
      intro e w' lo hi XW hle hhi e0 e1 e3 e4 e7 e12 e13 hlo hup
      refine hK _ _ ?_; clear hK K
      refine W_seq ?_
      refine W_block (W_loop (fun mm e w' => Ext noF w1 w' ∧ ∃ lo hi : Nat, mm = hi - lo ∧ lo ≤ hi ∧ hi ≤ ks.length ∧ e 0 = ptr m ∧ e 1 = ptr b ∧ e 3 = ptr hb ∧ e 4 = .int .i64 dep ∧ e 7 = ptr q ∧ e 12 = .int .i64 lo ∧ e 13 = .int .i64 ((hi : Int) - 1) ∧
        (∀ i y, i < lo → ks[i]? = some y → O.lt (rkI ord x) (rkI ord y) = false) ∧ (∀ i y, hi ≤ i → ks[i]? = some y → O.lt (rkI ord x) (rkI ord y) = true)) (hi - lo) ⟨XW, lo, hi, rfl, hle, hhi, e0, e1, e3, e4, e7, e12, e13, hlo, hup⟩ ?_)
      clear e0 e1 e3 e4 e7 e12 e13 e XW hle hhi hlo hup w' lo hi
      rintro mm e w' ⟨XW, lo, hi, rfl, hle, hhi, e0, e1, e3, e4, e7, e12, e13, hlo, hup⟩
      have sw := XW.size
      have h2' := XW.rd h2 fun g => g
      have row' := XW.row row fun _ _ g => g
      have bx' := iX_at (XW.row bx1 fun _ _ g => g)
      have hL' := hL.ext0 XW
      refine W_seq ?_
      by_cases hlt : lo < hi
      · have ht : decide ((lo : Int) ≤ (hi : Int) - 1) = true := by simp; omega
        refine W_sq fun K hK => (W_text [true, true, true] (by kernel_rfl) ?_); simp only [↓List.toList_toArray, ↓rgd, ↓rgf, ↓reduceIte, Nat.reduceEqDiff, rg, ow_123, e12, e13, ht]
        refine hK _ _ ?_; clear hK K
        refine W_true (by simp only [evt, evc, upd_eq, Nat.reduceEqDiff, ↓reduceIte, ntT, ntF] <;> rfl) (W_skip ?_)
        show W _ _ _ _ _ _
        have q1 := hi_add hi (by omega)
        have q2 := wsub hi lo hle (by omega)
        have q3 := wdiv2 (hi - lo) (by omega)
        have q4 := wadd lo ((hi - lo) / 2) (by omega)
        refine W_block ?_
        refine W_sq fun K hK => (W_text [true, true, true, true, true, true, true, true] (by kernel_rfl) ?_); simp only [↓List.toList_toArray, ↓rgd, ↓rgf, ↓reduceIte, Nat.reduceEqDiff, rg, ow_123, e12, e13, q1, q2, q3, q4]
        refine hK _ _ ?_; clear hK K
        obtain ⟨md, hmd⟩ : ∃ md, md = lo + (hi - lo) / 2 := ⟨_, rfl⟩
        rw [← hmd]
        obtain ⟨y, hy⟩ : ∃ y, ks[md]? = some y := ⟨_, List.getElem?_eq_getElem (by omega)⟩
        have hk := it_at row' hy
        have hi1 : md < ks.length := by omega
        refine W_sq fun K hK => (W_free (some none) (.take 0 (.take 1 (.take 2 (.take 3 (.take 4 (.take 5 (.take 6 (.take 7 (.take 8 (.bar 9 (.take 10 .nil))))))))))) mixed (by kernel_rfl) ?_); simp only [↓List.toList_toArray, ↓rgd, ↓rgf, ↓reduceIte, Nat.reduceEqDiff, rg, ow_123, e0, e1, e7, ptr_eq, h2', hi1, hk, bx']
        refine do_call fn_109 (by simp only [evt, evc, upd_eq, Nat.reduceEqDiff, ↓reduceIte, maT, maC, maN, isnN, isnS] <;> rfl) (less_any B m ord x y _ (hL'.ext0 (Ext.dr noF _ _))) ?_
        rintro _ w2 ⟨rfl, x2⟩
        refine ⟨trivial, ?_⟩
        simp only [↓List.toList_toArray, ↓rgd, ↓rgf, ↓reduceIte, Nat.reduceEqDiff, rg, ow_123]
        refine hK _ _ ?_; clear hK K
        have X2 := XW.tr x2.od
        cases hq : O.lt (rkI ord x) (rkI ord y) with
        | true =>
          refine W_false (by simp only [evt, upd_eq, ↓reduceIte, ntT, ntF]) ?_
          have e5 := hi_sub md (by omega)
          refine W_rg fun K hK => (W_text [true, true, true] (by kernel_rfl) ?_); simp only [↓List.toList_toArray, ↓rgd, ↓rgf, ↓reduceIte, Nat.reduceEqDiff, rg, ow_123, e5]
          refine hK _ _ ?_; clear hK K
          refine ⟨_, ?_, X2.tr (Ext.dr _ _ _), lo, md, rfl, by omega, by omega, ?_, ?_, ?_, ?_, ?_, ?_, ?_, hlo, ?_⟩
          · omega
          · simp only [upd_eq, Nat.reduceEqDiff, ↓reduceIte]; exact e0
          · simp only [upd_eq, Nat.reduceEqDiff, ↓reduceIte]; exact e1
          · simp only [upd_eq, Nat.reduceEqDiff, ↓reduceIte]; exact e3
          · simp only [upd_eq, Nat.reduceEqDiff, ↓reduceIte]; exact e4
          · simp only [upd_eq, Nat.reduceEqDiff, ↓reduceIte]; exact e7
          · simp only [upd_eq, Nat.reduceEqDiff, ↓reduceIte]; exact e12
          · simp only [upd_eq, Nat.reduceEqDiff, ↓reduceIte]
          · intro i z hi' hz
            by_cases he : i = md
            · subst he; rw [hy] at hz; cases hz; exact hq
            · have hsp := List.pairwise_iff_getElem.1 ha md i (by omega) (List.getElem?_eq_some_iff.1 hz).1 (by omega)
              rw [(List.getElem?_eq_some_iff.1 hy).2, (List.getElem?_eq_some_iff.1 hz).2] at hsp
              exact O.tr _ _ _ hq hsp
        | false =>
          refine W_true (by simp only [evt, upd_eq, ↓reduceIte, ntT, ntF]) ?_
          have e5 := wadd1 md (by omega)
          refine W_rg fun K hK => (W_text [true, true, true] (by kernel_rfl) ?_); simp only [↓List.toList_toArray, ↓rgd, ↓rgf, ↓reduceIte, Nat.reduceEqDiff, rg, ow_123, e5]
          refine hK _ _ ?_; clear hK K
          refine ⟨_, ?_, X2.tr (Ext.dr _ _ _), md + 1, hi, rfl, by omega, by omega, ?_, ?_, ?_, ?_, ?_, ?_, ?_, ?_, hup⟩
          · omega
          · simp only [upd_eq, Nat.reduceEqDiff, ↓reduceIte]; exact e0
          · simp only [upd_eq, Nat.reduceEqDiff, ↓reduceIte]; exact e1
          · simp only [upd_eq, Nat.reduceEqDiff, ↓reduceIte]; exact e3
          · simp only [upd_eq, Nat.reduceEqDiff, ↓reduceIte]; exact e4
          · simp only [upd_eq, Nat.reduceEqDiff, ↓reduceIte]; exact e7
          · simp only [upd_eq, Nat.reduceEqDiff, ↓reduceIte]
          · simp only [upd_eq, Nat.reduceEqDiff, ↓reduceIte]; exact e13
          · intro i z hi' hz
            by_cases he : i = md
            · subst he; rw [hy] at hz; cases hz; exact hq
            · have hsp := List.pairwise_iff_getElem.1 ha i md (List.getElem?_eq_some_iff.1 hz).1 (by omega) (by omega)
              rw [(List.getElem?_eq_some_iff.1 hy).2, (List.getElem?_eq_some_iff.1 hz).2] at hsp
              cases hqy : O.lt (rkI ord x) (rkI ord z) with
              | false => rfl
              | true => have := O.tr _ _ _ hqy hsp; rw [hq] at this; cases this
      · obtain rfl : lo = hi := by omega
        have ht : decide ((lo : Int) ≤ (lo : Int) - 1) = false := by simp; omega
        refine W_sq fun K hK => (W_text [true, true, true] (by kernel_rfl) ?_); simp only [↓List.toList_toArray, ↓rgd, ↓rgf, ↓reduceIte, Nat.reduceEqDiff, rg, ow_123, e12, e13, ht]
        refine hK _ _ ?_; clear hK K
        refine W_false (by simp only [evt, evc, upd_eq, Nat.reduceEqDiff, ↓reduceIte, ntT, ntF] <;> rfl) (W_exit ?_)
        simp only [andThen_exit, inBlk_exit, andThen_normal, ↓reduceIte]
        refine W_sqx fun K hK => ?_
        have hlab : ∀ (e : Env) (w' : World), Ext noF w1 w' → e 1 = ptr b → e 3 = ptr hb → e 4 = .int .i64 dep → e 10 = .int .i64 (lb O (rkI ord) (rkI ord x) ks : Nat) → e 11 = .bool (hit O (rkI ord) (rkI ord x) ks) → K e w' :=
          fun e w' X g1 g3 g4 g10 g11 => hK _ _ (W_seq (W_label (by
            simp only [andThen_normal]
            exact hon _ _ ⟨X, g1, g3, g4, g10, g11⟩)))
        clear hK
        by_cases h00 : 0 < lo
        · obtain ⟨y, hy⟩ : ∃ y, ks[lo - 1]? = some y := ⟨_, List.getElem?_eq_getElem (by omega)⟩
          have hk := it_at row' hy
          have hi1 : lo - 1 < ks.length := by omega
          have e5 := wsub1 lo h00 (by omega)
          have ht0 : decide (0 < (lo : Int)) = true := by simp; omega
          refine W_sq fun K hK => (W_free (some none) (.take 0 (.take 1 (.take 2 (.take 3 (.take 4 (.take 5 (.take 6 (.take 7 (.take 8 (.take 9 (.take 10 (.take 11 (.take 12 (.bar 13 (.take 14 (.take 15 .nil)))))))))))))))) mixed (by kernel_rfl) ?_); simp only [↓List.toList_toArray, ↓rgd, ↓rgf, ↓reduceIte, Nat.reduceEqDiff, rg, ow_123, e0, e1, e7, e12, ptr_eq, h2', hi1, hk, bx', ht0, e5]
          refine do_call fn_109 (by simp only [evt, evc, upd_eq, Nat.reduceEqDiff, ↓reduceIte, maT, maC, maN, isnN, isnS] <;> rfl) (less_any B m ord y x _ (hL'.ext0 (Ext.dr noF _ _))) ?_
          rintro _ w2 ⟨rfl, x2⟩
          refine ⟨trivial, ?_⟩
          simp only [↓List.toList_toArray, ↓rgd, ↓rgf, ↓reduceIte, Nat.reduceEqDiff, rg, ow_123]
          refine hK _ _ ?_; clear hK K
          have X2 := XW.tr x2.od
          cases hq : O.lt (rkI ord y) (rkI ord x) with
          | true =>
            obtain ⟨f1, f2⟩ := missed_at O (rkI ord) ha (q := rkI ord x) (u := lo) hhi (fun z hz => hup lo z (Nat.le_refl _) hz) (fun z _ hz => by rw [hy] at hz; cases hz; exact hq)
            refine W_false (by simp only [evt, upd_eq, ↓reduceIte, ntT, ntF]) ?_
            refine W_sq fun K hK => (W_text [true, true] (by kernel_rfl) ?_); simp only [↓List.toList_toArray, ↓rgd, ↓rgf, ↓reduceIte, Nat.reduceEqDiff, rg, ow_123, e12]
            refine hK _ _ ?_; clear hK K
            refine W_rg fun K hK => (W_text [true] (by kernel_rfl) ?_); simp only [↓List.toList_toArray, ↓rgd, ↓rgf, ↓reduceIte, Nat.reduceEqDiff, rg, ow_123]
            refine hK _ _ ?_; clear hK K
            simp only [andThen_normal]
            exact hlab _ _ (X2.tr (Ext.dr _ _ _)) (by simp only [upd_eq, Nat.reduceEqDiff, ↓reduceIte]; exact e1) (by simp only [upd_eq, Nat.reduceEqDiff, ↓reduceIte]; exact e3) (by simp only [upd_eq, Nat.reduceEqDiff, ↓reduceIte]; exact e4) (by simp only [upd_eq, Nat.reduceEqDiff, ↓reduceIte]; rw [f1]) (by simp only [upd_eq, Nat.reduceEqDiff, ↓reduceIte]; rw [f2])
          | false =>
            obtain ⟨f1, f2⟩ := found_at O (rkI ord) ha (q := rkI ord x) (u := lo) hhi hlo (fun z hz => hup lo z (Nat.le_refl _) hz) h00 hy hq
            refine W_true (by simp only [evt, upd_eq, ↓reduceIte, ntT, ntF]) ?_
            refine W_sq fun K hK => (W_text [true, true, true] (by kernel_rfl) ?_); simp only [↓List.toList_toArray, ↓rgd, ↓rgf, ↓reduceIte, Nat.reduceEqDiff, rg, ow_123, e12, e5]
            refine hK _ _ ?_; clear hK K
            refine W_rg fun K hK => (W_text [true] (by kernel_rfl) ?_); simp only [↓List.toList_toArray, ↓rgd, ↓rgf, ↓reduceIte, Nat.reduceEqDiff, rg, ow_123]
            refine hK _ _ ?_; clear hK K
            simp only [andThen_normal]
            exact hlab _ _ (X2.tr (Ext.dr _ _ _)) (by simp only [upd_eq, Nat.reduceEqDiff, ↓reduceIte]; exact e1) (by simp only [upd_eq, Nat.reduceEqDiff, ↓reduceIte]; exact e3) (by simp only [upd_eq, Nat.reduceEqDiff, ↓reduceIte]; exact e4) (by simp only [upd_eq, Nat.reduceEqDiff, ↓reduceIte]; rw [f1]) (by simp only [upd_eq, Nat.reduceEqDiff, ↓reduceIte]; rw [f2])
        · have ht0 : decide (0 < (lo : Int)) = false := by simp; omega
          refine W_sq fun K hK => (W_free (some none) (.take 0 (.take 1 (.take 2 (.take 3 (.take 4 (.take 5 (.take 6 (.take 7 (.take 8 (.take 9 (.take 10 (.take 11 (.take 12 (.bar 13 (.take 14 (.take 15 .nil)))))))))))))))) mixed (by kernel_rfl) ?_); simp only [↓List.toList_toArray, ↓rgd, ↓rgf, ↓reduceIte, Nat.reduceEqDiff, rg, ow_123, e12, ht0]
          refine hK _ _ ?_; clear hK K
          obtain ⟨f1, f2⟩ := missed_at O (rkI ord) ha (q := rkI ord x) (u := lo) hhi (fun z hz => hup lo z (Nat.le_refl _) hz) (fun z h _ => by omega)
          refine W_false (by simp only [evt, evc, upd_eq, Nat.reduceEqDiff, ↓reduceIte, ntT, ntF] <;> rfl) ?_
          refine W_sq fun K hK => (W_text [true, true] (by kernel_rfl) ?_); simp only [↓List.toList_toArray, ↓rgd, ↓rgf, ↓reduceIte, Nat.reduceEqDiff, rg, ow_123, e12]
          refine hK _ _ ?_; clear hK K
          refine W_rg fun K hK => (W_text [true] (by kernel_rfl) ?_); simp only [↓List.toList_toArray, ↓rgd, ↓rgf, ↓reduceIte, Nat.reduceEqDiff, rg, ow_123]
          refine hK _ _ ?_; clear hK K
          simp only [andThen_normal]
          exact hlab _ _ (XW.tr (Ext.dr _ _ _)) (by simp only [upd_eq, Nat.reduceEqDiff, ↓reduceIte]; exact e1) (by simp only [upd_eq, Nat.reduceEqDiff, ↓reduceIte]; exact e3) (by simp only [upd_eq, Nat.reduceEqDiff, ↓reduceIte]; exact e4) (by simp only [upd_eq, Nat.reduceEqDiff, ↓reduceIte]; rw [f1]) (by simp only [upd_eq, Nat.reduceEqDiff, ↓reduceIte]; rw [f2])
    clear hK
    by_cases hd : dep < 8
    · have td : decide ((dep : Int) < 8) = true := by simp; omega
      obtain ⟨u, hu⟩ := hH.used dep hd
      cases u with
      | false =>
        refine W_sq fun K hK => (W_text [true, true, true, true, true, true, true, true, true, true] (by kernel_rfl) ?_); simp only [↓List.toList_toArray, ↓rgd, ↓rgf, ↓reduceIte, Nat.reduceEqDiff, rg, ow_123, e3, e4, td, ptr_eq, idx_ar, idxA_s, hd, hu]
        refine hK _ _ ?_; clear hK K
        refine W_false (by simp only [evt, evc, upd_eq, Nat.reduceEqDiff, ↓reduceIte, ntT, ntF] <;> rfl) (W_skip ?_)
        simp only [andThen_normal]
        refine hloop _ _ 0 ks.length (Ext.dr _ _ _) (Nat.zero_le _) (Nat.le_refl _) (by simp only [upd_eq, Nat.reduceEqDiff, ↓reduceIte]; exact e0) (by simp only [upd_eq, Nat.reduceEqDiff, ↓reduceIte]; exact e1) (by simp only [upd_eq, Nat.reduceEqDiff, ↓reduceIte]; exact e3) (by simp only [upd_eq, Nat.reduceEqDiff, ↓reduceIte]; exact e4) (by simp only [upd_eq, Nat.reduceEqDiff, ↓reduceIte]; rfl) (by simp only [upd_eq, Nat.reduceEqDiff, ↓reduceIte]; rfl) (by simp only [upd_eq, Nat.reduceEqDiff, ↓reduceIte]) (fun i y hi => by omega) (fun i y hi hx => by have := (List.getElem?_eq_some_iff.1 hx).1; omega)
      | true =>
        refine W_sq fun K hK => (W_text [true, true, true, true, true, true, true, true, true, true] (by kernel_rfl) ?_); simp only [↓List.toList_toArray, ↓rgd, ↓rgf, ↓reduceIte, Nat.reduceEqDiff, rg, ow_123, e3, e4, td, ptr_eq, idx_ar, idxA_s, hd, hu]
        refine hK _ _ ?_; clear hK K
        refine W_true (by simp only [evt, evc, upd_eq, Nat.reduceEqDiff, ↓reduceIte, ntT, ntF] <;> rfl) ?_
        obtain ⟨p, hp, hr⟩ := hH.path dep hd
        have p1 := u8_i64 p hp
        refine W_sq fun K hK => (W_text [true, true, true, true, true, true, true, true] (by kernel_rfl) ?_); simp only [↓List.toList_toArray, ↓rgd, ↓rgf, ↓reduceIte, Nat.reduceEqDiff, rg, ow_123, e3, e4, ptr_eq, idx_ar, idxA_s, hd, hr, p1]
        refine hK _ _ ?_; clear hK K
        have hz : ∀ (i : Nat) y, ks[i]? = some y → ∀ j z, i < j → ks[j]? = some z → O.lt (rkI ord y) (rkI ord z) = true := fun i y hy j z hij hz => by
          have hsp := List.pairwise_iff_getElem.1 ha i j (List.getElem?_eq_some_iff.1 hy).1 (List.getElem?_eq_some_iff.1 hz).1 hij
          rwa [(List.getElem?_eq_some_iff.1 hy).2, (List.getElem?_eq_some_iff.1 hz).2] at hsp
        refine W_sqx fun K2 hK2 => ?_
        have hidx : ∀ (e : Env) (w' : World) (i : Nat), i < ks.length → Ext noF w1 w' → e 0 = ptr m → e 1 = ptr b → e 3 = ptr hb → e 4 = .int .i64 dep → e 7 = ptr q → e 10 = .int .i64 i → e 11 = .bool false → e 12 = .int .i64 (0 : Nat) →
            e 13 = .int .i64 ((ks.length : Int) - 1) → K2 e w' := by
          clear e0 e1 e2 e3 e4 e
          intro e w' i hi XW e0 e1 e3 e4 e7 e10 e11 e12 e13
          refine hK2 _ _ ?_; clear hK2 K2
          have sw := XW.size
          have h2' := XW.rd h2 fun g => g
          have row' := XW.row row fun _ _ g => g
          have bx' := iX_at (XW.row bx1 fun _ _ g => g)
          have hL' := hL.ext0 XW
          obtain ⟨y, hy⟩ : ∃ y, ks[i]? = some y := ⟨_, List.getElem?_eq_getElem hi⟩
          have hk := it_at row' hy
          refine W_sq fun K hK => (W_free (some none) (.take 0 (.take 1 (.take 2 (.take 3 (.take 4 (.take 5 (.take 6 (.take 7 (.take 8 (.bar 9 .nil)))))))))) mixed (by kernel_rfl) ?_); simp only [↓List.toList_toArray, ↓rgd, ↓rgf, ↓reduceIte, Nat.reduceEqDiff, rg, ow_123, e0, e1, e7, e10, ptr_eq, h2', hi, hk, bx']
          refine do_call fn_109 (by simp only [evt, evc, upd_eq, Nat.reduceEqDiff, ↓reduceIte, maT, maC, maN, isnN, isnS] <;> rfl) (less_any B m ord x y _ (hL'.ext0 (Ext.dr noF _ _))) ?_
          rintro _ w2 ⟨rfl, x2⟩
          refine ⟨trivial, ?_⟩
          simp only [↓List.toList_toArray, ↓rgd, ↓rgf, ↓reduceIte, Nat.reduceEqDiff, rg, ow_123]
          refine hK _ _ ?_; clear hK K
          have X2 := XW.tr x2.od
          have s2 := X2.size
          have h2'' := X2.rd h2 fun g => g
          have row'' := X2.row row fun _ _ g => g
          have bx'' := iX_at (X2.row bx1 fun _ _ g => g)
          have hL'' := hL.ext0 X2
          have hk2 := it_at row'' hy
          cases hq : O.lt (rkI ord x) (rkI ord y) with
          | true =>
            refine W_true (by simp only [evt, upd_eq, ↓reduceIte, ntT, ntF]) ?_
            have up : ∀ j z, i ≤ j → ks[j]? = some z → O.lt (rkI ord x) (rkI ord z) = true := fun j z hij hjz => by
              by_cases he : j = i
              · subst he; rw [hy] at hjz; cases hjz; exact hq
              · exact O.tr _ _ _ hq (hz i y hy j z (by omega) hjz)
            refine W_seq ?_
            by_cases h00 : i = 0
            · have t0 : ((i : Int) == 0) = true := by simp; omega
              refine W_sq fun K hK => (W_free (some none) (.take 0 (.take 1 (.take 2 (.take 3 (.take 4 (.take 5 (.take 6 (.take 7 (.take 8 (.take 9 (.take 10 (.take 11 (.take 12 (.bar 13 (.take 14 .nil))))))))))))))) mixed (by kernel_rfl) ?_); simp only [↓List.toList_toArray, ↓rgd, ↓rgf, ↓reduceIte, Nat.reduceEqDiff, rg, ow_123, e10, t0]
              refine hK _ _ ?_; clear hK K
              obtain ⟨f1, f2⟩ := missed_at O (rkI ord) ha (q := rkI ord x) (u := i) (by omega) (fun z hz => up i z (Nat.le_refl _) hz) (fun z h _ => by omega)
              refine W_true (by simp only [evt, evc, upd_eq, Nat.reduceEqDiff, ↓reduceIte, ntT, ntF] <;> rfl) (W_goto ?_)
              simp only [andThen_goto, jump_goto]
              exact ⟨trivial, X2.tr (Ext.dr _ _ _), (by simp only [upd_eq, Nat.reduceEqDiff, ↓reduceIte]; exact e1), (by simp only [upd_eq, Nat.reduceEqDiff, ↓reduceIte]; exact e3), (by simp only [upd_eq, Nat.reduceEqDiff, ↓reduceIte]; exact e4), (by simp only [upd_eq, Nat.reduceEqDiff, ↓reduceIte]; rw [f1]; exact e10), (by simp only [upd_eq, Nat.reduceEqDiff, ↓reduceIte]; rw [f2]; exact e11)⟩
            · have t0 : ((i : Int) == 0) = false := by simp; omega
              obtain ⟨y0, hy0⟩ : ∃ y, ks[i - 1]? = some y := ⟨_, List.getElem?_eq_getElem (by omega)⟩
              have hk0 := it_at row'' hy0
              have hi1 : i - 1 < ks.length := by omega
              have e5 := wsub1 i (by omega) (by omega)
              refine W_sq fun K hK => (W_free (some none) (.take 0 (.take 1 (.take 2 (.take 3 (.take 4 (.take 5 (.take 6 (.take 7 (.take 8 (.take 9 (.take 10 (.take 11 (.take 12 (.bar 13 (.take 14 .nil))))))))))))))) mixed (by kernel_rfl) ?_); simp only [↓List.toList_toArray, ↓rgd, ↓rgf, ↓reduceIte, Nat.reduceEqDiff, rg, ow_123, e0, e1, e7, e10, ptr_eq, h2'', hi1, hk0, bx'', t0, e5]
              refine do_call fn_109 (by simp only [evt, evc, upd_eq, Nat.reduceEqDiff, ↓reduceIte, maT, maC, maN, isnN, isnS] <;> rfl) (less_any B m ord y0 x _ (hL''.ext0 (Ext.dr noF _ _))) ?_
              rintro _ w3 ⟨rfl, x3⟩
              refine ⟨trivial, ?_⟩
              simp only [↓List.toList_toArray, ↓rgd, ↓rgf, ↓reduceIte, Nat.reduceEqDiff, rg, ow_123]
              refine hK _ _ ?_; clear hK K
              have X3 := X2.tr x3.od
              cases hq0 : O.lt (rkI ord y0) (rkI ord x) with
              | true =>
                obtain ⟨f1, f2⟩ := missed_at O (rkI ord) ha (q := rkI ord x) (u := i) (by omega) (fun z hz => up i z (Nat.le_refl _) hz) (fun z _ hz => by rw [hy0] at hz; cases hz; exact hq0)
                refine W_true (by simp only [evt, upd_eq, ↓reduceIte, ntT, ntF]) (W_goto ?_)
                simp only [andThen_goto, jump_goto]
                exact ⟨trivial, X3.tr (Ext.dr _ _ _), (by simp only [upd_eq, Nat.reduceEqDiff, ↓reduceIte]; exact e1), (by simp only [upd_eq, Nat.reduceEqDiff, ↓reduceIte]; exact e3), (by simp only [upd_eq, Nat.reduceEqDiff, ↓reduceIte]; exact e4), (by simp only [upd_eq, Nat.reduceEqDiff, ↓reduceIte]; rw [f1]; exact e10), (by simp only [upd_eq, Nat.reduceEqDiff, ↓reduceIte]; rw [f2]; exact e11)⟩
              | false =>
                refine W_false (by simp only [evt, upd_eq, ↓reduceIte, ntT, ntF]) (W_skip ?_)
                show W _ _ _ _ _ _
                have e6 := hi_sub i (by omega)
                refine W_rg fun K hK => (W_text [true, true, true] (by kernel_rfl) ?_); simp only [↓List.toList_toArray, ↓rgd, ↓rgf, ↓reduceIte, Nat.reduceEqDiff, rg, ow_123, e10, e6]
                refine hK _ _ ?_; clear hK K
                simp only [andThen_normal]
                exact hloop _ _ 0 i (X3.tr (Ext.dr _ _ _)) (Nat.zero_le _) (by omega) (by simp only [upd_eq, Nat.reduceEqDiff, ↓reduceIte]; exact e0) (by simp only [upd_eq, Nat.reduceEqDiff, ↓reduceIte]; exact e1) (by simp only [upd_eq, Nat.reduceEqDiff, ↓reduceIte]; exact e3) (by simp only [upd_eq, Nat.reduceEqDiff, ↓reduceIte]; exact e4) (by simp only [upd_eq, Nat.reduceEqDiff, ↓reduceIte]; exact e7) (by simp only [upd_eq, Nat.reduceEqDiff, ↓reduceIte]; exact e12) (by simp only [upd_eq, Nat.reduceEqDiff, ↓reduceIte]) (fun i y hi => by omega) up
          | false =>
            refine W_false (by simp only [evt, upd_eq, ↓reduceIte, ntT, ntF]) ?_
            refine W_sq fun K hK => (W_free (some none) (.take 0 (.take 1 (.take 2 (.take 3 (.take 4 (.take 5 (.take 6 (.take 7 (.take 8 (.bar 9 .nil)))))))))) mixed (by kernel_rfl) ?_); simp only [↓List.toList_toArray, ↓rgd, ↓rgf, ↓reduceIte, Nat.reduceEqDiff, rg, ow_123, e0, e1, e7, e10, ptr_eq, h2'', hi, hk2, bx'']
            refine do_call fn_109 (by simp only [evt, evc, upd_eq, Nat.reduceEqDiff, ↓reduceIte, maT, maC, maN, isnN, isnS] <;> rfl) (less_any B m ord y x _ (hL''.ext0 (Ext.dr noF _ _))) ?_
            rintro _ w3 ⟨rfl, x3⟩
            refine ⟨trivial, ?_⟩
            simp only [↓List.toList_toArray, ↓rgd, ↓rgf, ↓reduceIte, Nat.reduceEqDiff, rg, ow_123]
            refine hK _ _ ?_; clear hK K
            have X3 := X2.tr x3.od
            have low : ∀ j z, j < i + 1 → ks[j]? = some z → O.lt (rkI ord x) (rkI ord z) = false := fun j z hij hjz => by
              by_cases he : j = i
              · subst he; rw [hy] at hjz; cases hjz; exact hq
              · cases hqz : O.lt (rkI ord x) (rkI ord z) with
                | false => rfl
                | true => have := O.tr _ _ _ hqz (hz j z hjz i y (by omega) hy); rw [hq] at this; cases this
            cases hq0 : O.lt (rkI ord y) (rkI ord x) with
            | true =>
              refine W_true (by simp only [evt, upd_eq, ↓reduceIte, ntT, ntF]) ?_
              have e6 := wadd1 i (by omega)
              refine W_rg fun K hK => (W_text [true, true, true] (by kernel_rfl) ?_); simp only [↓List.toList_toArray, ↓rgd, ↓rgf, ↓reduceIte, Nat.reduceEqDiff, rg, ow_123, e10, e6]
              refine hK _ _ ?_; clear hK K
              simp only [andThen_normal]
              exact hloop _ _ (i + 1) ks.length (X3.tr (Ext.dr _ _ _)) hi (Nat.le_refl _) (by simp only [upd_eq, Nat.reduceEqDiff, ↓reduceIte]; exact e0) (by simp only [upd_eq, Nat.reduceEqDiff, ↓reduceIte]; exact e1) (by simp only [upd_eq, Nat.reduceEqDiff, ↓reduceIte]; exact e3) (by simp only [upd_eq, Nat.reduceEqDiff, ↓reduceIte]; exact e4) (by simp only [upd_eq, Nat.reduceEqDiff, ↓reduceIte]; exact e7) (by simp only [upd_eq, Nat.reduceEqDiff, ↓reduceIte]) (by simp only [upd_eq, Nat.reduceEqDiff, ↓reduceIte]; exact e13) low (fun i y hi hx => by have := (List.getElem?_eq_some_iff.1 hx).1; omega)
            | false =>
              have hxy := O.tot _ _ hq0 hq
              obtain ⟨f1, f2⟩ := found_at O (rkI ord) ha (q := rkI ord x) (u := i + 1) hi low (fun z hjz => by rw [← hxy]; exact hz i y hy (i + 1) z (by omega) hjz) (by omega) hy hq0
              refine W_false (by simp only [evt, upd_eq, ↓reduceIte, ntT, ntF]) ?_
              refine W_sq fun K hK => (W_text [true] (by kernel_rfl) ?_); simp only [↓List.toList_toArray, ↓rgd, ↓rgf, ↓reduceIte, Nat.reduceEqDiff, rg, ow_123]
              refine hK _ _ ?_; clear hK K
              refine W_goto ?_
              simp only [andThen_goto, jump_goto]
              exact ⟨trivial, X3.tr (Ext.dr _ _ _), (by simp only [upd_eq, Nat.reduceEqDiff, ↓reduceIte]; exact e1), (by simp only [upd_eq, Nat.reduceEqDiff, ↓reduceIte]; exact e3), (by simp only [upd_eq, Nat.reduceEqDiff, ↓reduceIte]; exact e4), (by simp only [upd_eq, Nat.reduceEqDiff, ↓reduceIte]; rw [f1]; exact e10), (by simp only [upd_eq, Nat.reduceEqDiff, ↓reduceIte]; rw [f2])⟩
        clear hK2
        by_cases hpl : p < ks.length
        · have tp : decide ((ks.length : Int) ≤ (p : Int)) = false := by simp; omega
          refine W_sq fun K hK => (W_text [true, true, true, true, true, true, true] (by kernel_rfl) ?_); simp only [↓List.toList_toArray, ↓rgd, ↓rgf, ↓reduceIte, Nat.reduceEqDiff, rg, ow_123, e1, ptr_eq, h2, tp]
          refine hK _ _ ?_; clear hK K
          refine W_false (by simp only [evt, evc, upd_eq, Nat.reduceEqDiff, ↓reduceIte, ntT, ntF] <;> rfl) (W_skip ?_)
          simp only [andThen_normal]
          exact hidx _ _ p hpl (Ext.dr _ _ _) (by simp only [upd_eq, Nat.reduceEqDiff, ↓reduceIte]; exact e0) (by simp only [upd_eq, Nat.reduceEqDiff, ↓reduceIte]; exact e1) (by simp only [upd_eq, Nat.reduceEqDiff, ↓reduceIte]; exact e3) (by simp only [upd_eq, Nat.reduceEqDiff, ↓reduceIte]; exact e4) (by simp only [upd_eq, Nat.reduceEqDiff, ↓reduceIte]; rfl) (by simp only [upd_eq, Nat.reduceEqDiff, ↓reduceIte]) (by simp only [upd_eq, Nat.reduceEqDiff, ↓reduceIte]) (by simp only [upd_eq, Nat.reduceEqDiff, ↓reduceIte]; rfl) (by simp only [upd_eq, Nat.reduceEqDiff, ↓reduceIte])
        · have tp : decide ((ks.length : Int) ≤ (p : Int)) = true := by simp; omega
          refine W_sq fun K hK => (W_text [true, true, true, true, true, true, true] (by kernel_rfl) ?_); simp only [↓List.toList_toArray, ↓rgd, ↓rgf, ↓reduceIte, Nat.reduceEqDiff, rg, ow_123, e1, ptr_eq, h2, tp]
          refine hK _ _ ?_; clear hK K
          refine W_true (by simp only [evt, evc, upd_eq, Nat.reduceEqDiff, ↓reduceIte, ntT, ntF] <;> rfl) (W_seq ?_)
          obtain ⟨y0, hy0⟩ : ∃ y, ks[ks.length - 1]? = some y := ⟨_, List.getElem?_eq_getElem (by omega)⟩
          have hk0 := it_at row hy0
          have hi1 : ks.length - 1 < ks.length := by omega
          have e5 := wsub1 ks.length (by omega) (by omega)
          have bx' := iX_at bx1
          refine W_sq fun K hK => (W_free (some none) (.take 0 (.take 1 (.take 2 (.take 3 (.take 4 (.take 5 (.take 6 (.take 7 (.take 8 (.take 9 (.take 10 (.take 11 (.take 12 (.take 13 (.bar 14 .nil))))))))))))))) mixed (by kernel_rfl) ?_); simp only [↓List.toList_toArray, ↓rgd, ↓rgf, ↓reduceIte, Nat.reduceEqDiff, rg, ow_123, e0, e1, ptr_eq, h2, hi1, hk0, bx', e5]
          refine do_call fn_109 (by simp only [evt, evc, upd_eq, Nat.reduceEqDiff, ↓reduceIte, maT, maC, maN, isnN, isnS] <;> rfl) (less_any B m ord y0 x _ (hL.ext0 (Ext.dr noF _ _))) ?_
          rintro _ w2 ⟨rfl, x2⟩
          refine ⟨trivial, ?_⟩
          simp only [↓List.toList_toArray, ↓rgd, ↓rgf, ↓reduceIte, Nat.reduceEqDiff, rg, ow_123]
          refine hK _ _ ?_; clear hK K
          have X2 := x2.od
          have h2'' := X2.rd h2 fun g => g
          cases hq0 : O.lt (rkI ord y0) (rkI ord x) with
          | true =>
            obtain ⟨f1, f2⟩ := missed_at O (rkI ord) ha (q := rkI ord x) (u := ks.length) (Nat.le_refl _) (fun z hjz => by have := (List.getElem?_eq_some_iff.1 hjz).1; omega) (fun z _ hz => by rw [hy0] at hz; cases hz; exact hq0)
            refine W_true (by simp only [evt, upd_eq, ↓reduceIte, ntT, ntF]) ?_
            refine W_sq fun K hK => (W_text [true, true, true, true, true, true] (by kernel_rfl) ?_); simp only [↓List.toList_toArray, ↓rgd, ↓rgf, ↓reduceIte, Nat.reduceEqDiff, rg, ow_123, e1, ptr_eq, h2'']
            refine hK _ _ ?_; clear hK K
            refine W_goto ?_
            simp only [andThen_goto, jump_goto]
            exact ⟨trivial, X2.tr (Ext.dr _ _ _), (by simp only [upd_eq, Nat.reduceEqDiff, ↓reduceIte]; exact e1), (by simp only [upd_eq, Nat.reduceEqDiff, ↓reduceIte]; exact e3), (by simp only [upd_eq, Nat.reduceEqDiff, ↓reduceIte]; exact e4), (by simp only [upd_eq, Nat.reduceEqDiff, ↓reduceIte]; rw [f1]), (by simp only [upd_eq, Nat.reduceEqDiff, ↓reduceIte]; rw [f2])⟩
          | false =>
            refine W_false (by simp only [evt, upd_eq, ↓reduceIte, ntT, ntF]) (W_skip ?_)
            show W _ _ _ _ _ _
            refine W_rg fun K hK => (W_text [true, true, true, true, true, true, true] (by kernel_rfl) ?_); simp only [↓List.toList_toArray, ↓rgd, ↓rgf, ↓reduceIte, Nat.reduceEqDiff, rg, ow_123, e1, ptr_eq, h2'', e5]
            refine hK _ _ ?_; clear hK K
            simp only [andThen_normal]
            exact hidx _ _ (ks.length - 1) hi1 (X2.tr (Ext.dr _ _ _)) (by simp only [upd_eq, Nat.reduceEqDiff, ↓reduceIte]; exact e0) (by simp only [upd_eq, Nat.reduceEqDiff, ↓reduceIte]; exact e1) (by simp only [upd_eq, Nat.reduceEqDiff, ↓reduceIte]; exact e3) (by simp only [upd_eq, Nat.reduceEqDiff, ↓reduceIte]; exact e4) (by simp only [upd_eq, Nat.reduceEqDiff, ↓reduceIte]; rfl) (by simp only [upd_eq, Nat.reduceEqDiff, ↓reduceIte]) (by simp only [upd_eq, Nat.reduceEqDiff, ↓reduceIte]) (by simp only [upd_eq, Nat.reduceEqDiff, ↓reduceIte]; rfl) (by simp only [upd_eq, Nat.reduceEqDiff, ↓reduceIte])
    · have td : decide ((dep : Int) < 8) = false := by simp; omega
      refine W_sq fun K hK => (W_text [true, true, true, true, true, true, true, true, true, true] (by kernel_rfl) ?_); simp only [↓List.toList_toArray, ↓rgd, ↓rgf, ↓reduceIte, Nat.reduceEqDiff, rg, ow_123, e3, e4, td]
      refine hK _ _ ?_; clear hK K
      refine W_false (by simp only [evt, evc, upd_eq, Nat.reduceEqDiff, ↓reduceIte, ntT, ntF] <;> rfl) (W_skip ?_)
      simp only [andThen_normal]
      refine hloop _ _ 0 ks.length (Ext.dr _ _ _) (Nat.zero_le _) (Nat.le_refl _) (by simp only [upd_eq, Nat.reduceEqDiff, ↓reduceIte]; exact e0) (by simp only [upd_eq, Nat.reduceEqDiff, ↓reduceIte]; exact e1) (by simp only [upd_eq, Nat.reduceEqDiff, ↓reduceIte]; exact e3) (by simp only [upd_eq, Nat.reduceEqDiff, ↓reduceIte]; exact e4) (by simp only [upd_eq, Nat.reduceEqDiff, ↓reduceIte]; rfl) (by simp only [upd_eq, Nat.reduceEqDiff, ↓reduceIte]; rfl) (by simp only [upd_eq, Nat.reduceEqDiff, ↓reduceIte]) (fun i y hi => by omega) (fun i y hi hx => by have := (List.getElem?_eq_some_iff.1 hx).1; omega)
set_option maxHeartbeats 400000 in
set_option maxRecDepth 8000 in
/-- The search in a node, with a hint or without one. -/
theorem find_any (B m b bi oi cap : Nat) (ord : List Int) (ks : List It) (x : It) (ch : Option Addr) (hp : Option Nat) (dep : Nat) (w : World) (hL : Ls B m w ord) (h2 : rd w b 2 = some (.slice (some ⟨bi, oi, none⟩) ks.length cap)) (h3 : rd w b 3 = some (.pointer ch))
    (row : Row w bi oi (flat E ks)) (hbi : bi < w.heap.size) (hlen : ks.length < 4611686018427387904) (hpos : 0 < ks.length) (ha : Asc O (rkI ord) ks) (hH : HOk hp w) (hne : ∀ hb, hp = some hb → hb ≠ b) :
    CallK Try.prog 114 #[ptr m, ptr b, itV x, hV hp, .int .i64 dep] w fun v w' => v = srchG ord ks x ∧ Ext (hF hp) w w' ∧ HOk hp w' := by
  refine calls_of_W [.tmp 10, .tmp 11] Try.func114 rfl Try.ntmps114 Try.results114 (by simp) fun e he => ?_
  have e0 : e 0 = ptr m := he 0 _ rfl
  have e1 : e 1 = ptr b := he 1 _ rfl
  have e2 : e 2 = itV x := he 2 _ rfl
  have e3 : e 3 = hV hp := he 3 _ rfl
  have e4 : e 4 = .int .i64 dep := he 4 _ rfl
  clear he
  refine W_sq fun K hK => (W_text [false, true, true] (by kernel_rfl) ?_); simp only [↓List.toList_toArray, ↓rgd, ↓rgf, ↓reduceIte, Nat.reduceEqDiff, rg, ow_114]
  refine do_box (by simp only [evt]; exact e2) fun w1 n1 => ⟨trivial, ?_⟩
  simp only [↓List.toList_toArray, ↓rgd, ↓rgf, ↓reduceIte, Nat.reduceEqDiff, rg, ow_114]
  refine hK _ _ ?_; clear hK K
  have ix := iX_at (show Row w1 w.heap.size 0 (E.cel x) from n1.row)
  have X1 := n1.ext
  have h2' := X1.rd h2 fun g => g
  have h3' := X1.rd h3 fun g => g
  have row' := X1.row row fun _ _ g => g
  have hL' := hL.ext0 X1
  have hs := X1.size
  refine W_seq ?_
  cases hp with
  | none =>
    rw [hV_none] at e3
    refine W_sq fun K hK => (W_text [true, true] (by kernel_rfl) ?_); simp only [↓List.toList_toArray, ↓rgd, ↓rgf, ↓reduceIte, Nat.reduceEqDiff, rg, ow_114, e3]
    refine hK _ _ ?_; clear hK K
    refine W_true (by simp only [evt, evc, upd_eq, Nat.reduceEqDiff, ↓reduceIte, ntT, ntF] <;> rfl) ?_
    refine W_sq fun K hK => (W_text [true, true, true, false, true, true, true, true] (by kernel_rfl) ?_); simp only [↓List.toList_toArray, ↓rgd, ↓rgf, ↓reduceIte, Nat.reduceEqDiff, rg, ow_114, e0, e1, ix]
    refine do_call fn_122 (by simp only [evt, evc, upd_eq, Nat.reduceEqDiff, ↓reduceIte, maT, maC, maN, isnN, isnS] <;> rfl) (bsearch_any B m b bi oi cap ord ks x _ hL' h2' row' (by omega) hlen ha) ?_
    rintro _ w2 ⟨rfl, x2⟩
    refine ⟨trivial, ?_⟩
    simp only [↓List.toList_toArray, ↓rgd, ↓rgf, ↓reduceIte, Nat.reduceEqDiff, rg, ow_114, srchG]
    refine hK _ _ ?_; clear hK K
    refine W_ret ?_
    simp only [andThen_ret]
    exact endQ_2 (by simp only [upd_eq, Nat.reduceEqDiff, ↓reduceIte] <;> rfl) (by simp only [upd_eq, Nat.reduceEqDiff, ↓reduceIte] <;> rfl) ⟨rfl, ((X1.tr x2).tr (Ext.dr _ _ _)).mono fun _ _ _ g => g.elim, HOk.none _⟩
  | some hb =>
    rw [hV_some] at e3
    refine W_sq fun K hK => (W_text [true, true] (by kernel_rfl) ?_); simp only [↓List.toList_toArray, ↓rgd, ↓rgf, ↓reduceIte, Nat.reduceEqDiff, rg, ow_114, e3, ptr_eq]
    refine hK _ _ ?_; clear hK K
    refine W_false (by simp only [evt, evc, upd_eq, Nat.reduceEqDiff, ↓reduceIte, ntT, ntF] <;> rfl) (W_skip ?_)
    show W _ _ _ _ _ _
    refine W_sq fun K hK => (W_text [true, true, true, true, true, false, true, true, true, true] (by kernel_rfl) ?_); simp only [↓List.toList_toArray, ↓rgd, ↓rgf, ↓reduceIte, Nat.reduceEqDiff, rg, ow_114, e0, e1, e3, e4, ix]
    refine do_call fn_123 (by simp only [evt, evc, upd_eq, Nat.reduceEqDiff, ↓reduceIte, maT, maC, maN, isnN, isnS] <;> rfl) (hint_any B m b bi oi cap ord ks x ch hb dep _ hL' h2' h3' row' (by omega) hlen hpos ha ((hH hb rfl).ext X1 fun _ g => g) (hne hb rfl)) ?_
    rintro _ w2 ⟨rfl, x2, hH2⟩
    refine ⟨trivial, ?_⟩
    simp only [↓List.toList_toArray, ↓rgd, ↓rgf, ↓reduceIte, Nat.reduceEqDiff, rg, ow_114, srchG]
    refine hK _ _ ?_; clear hK K
    refine W_ret ?_
    exact endQ_2 (by simp only [upd_eq, Nat.reduceEqDiff, ↓reduceIte] <;> rfl) (by simp only [upd_eq, Nat.reduceEqDiff, ↓reduceIte] <;> rfl) ⟨rfl, (X1.trans x2 (fun _ _ g => g.elim) fun _ _ _ g => g).tr (Ext.dr _ _ _), fun b' h => by cases h; exact hH2.ext (Ext.dr noF _ _) fun _ g => g⟩
end Go.Proofs.Ytdffddiaoheklaa
/-
  What settings answer, one after the other; a tree that is being changed and the answers that are kept. No condition.
-/
set_option linter.unusedSimpArgs false
set_option linter.unusedVariables false
namespace Go.Proofs.Ytdffddiaoheklaa
open Go Go.Proofs
/-- The answers to settings. -/
def repsF (ord : List Int) : List It → List It → List (It × Bool)
  | _, [] => []
  | xs, x :: l => foO (at? O (rkI ord) (rkI ord x) xs) :: repsF ord (put O (rkI ord) x xs) l
def reps (ord : List Int) (l : List It) : List (It × Bool) := repsF ord [] l
theorem repsF_snoc (ord : List Int) (x : It) : ∀ (l xs : List It), repsF ord xs (l ++ [x]) = repsF ord xs l ++ [foO (at? O (rkI ord) (rkI ord x) (l.foldl (fun xs x => put O (rkI ord) x xs) xs))]
  | [], _ => rfl
  | y :: l, xs => by simp only [List.cons_append, repsF, repsF_snoc ord x l, List.foldl_cons]
theorem reps_succ {ord : List Int} {l : List It} {i : Nat} {x : It} (h : l[i]? = some x) : reps ord (l.take (i + 1)) = reps ord (l.take i) ++ [foO (at? O (rkI ord) (rkI ord x) (treeG ord (l.take i)))] := by
  rw [take_snoc h, reps, repsF_snoc]; rfl
theorem repsF_length (ord : List Int) : ∀ (l xs : List It), (repsF ord xs l).length = l.length
  | [], _ => rfl
  | x :: l, xs => by simp [repsF, repsF_length ord l]
theorem reps_length (ord : List Int) (l : List It) : (reps ord l).length = l.length := repsF_length ord l []
theorem at_is (ord : List Int) (q : It) (xs : List It) : (at? O (rkI ord) (rkI ord q) xs).isSome = hit O (rkI ord) (rkI ord q) xs := by
  unfold at?
  cases hh : hit O (rkI ord) (rkI ord q) xs with
  | true => obtain ⟨k, h1, _⟩ := hit_at O (rkI ord) hh; simp [h1]
  | false => simp
theorem foP_at (ord : List Int) (x : It) (xs : List It) : foP ((at? O (rkI ord) (rkI ord x) xs).getD zIt) (hit O (rkI ord) (rkI ord x) xs) = foO (at? O (rkI ord) (rkI ord x) xs) := by
  rw [← at_is]; exact foP_gotG _
/-- A slice that lies outside of a tree's cells. -/
def offB (v : Value) (F : Nat → Nat → Prop) : Prop := ∀ b o n c, v = .slice (some ⟨b, o, none⟩) n c → ∀ p, ¬ F b p
theorem offB_nil (F : Nat → Nat → Prop) : offB (.slice none 0 0) F := fun b o n c h => by cases h
theorem app_off {w w' : World} {sz n m B : Nat} {v v' : Value} {l l' : List Value} {F : Nat → Nat → Prop} (h : AppRes w sz v n m l l' v' w') (hv : since B v) (ho : offB v F) (hF : ∀ y o, F y o → y < w.heap.size) (hB : B ≤ w.heap.size) :
    offB v' F ∧ Ext (fun y _ => B ≤ y ∧ ∀ p, ¬ F y p) w w' := by
  rcases h.2 with ⟨rfl, rfl, h3⟩ | ⟨b0, o0, cap0, rfl, rfl, h3, h4, h5⟩ | ⟨cap', rfl, h2, h3⟩
  · exact ⟨ho, Ext.refl _ _⟩
  · have hb := hv _ _ _ _ rfl
    have hf := ho _ _ _ _ rfl
    refine ⟨fun b o n c h => ?_, h3.mono fun y o _ g => by simp only [rng] at g; rw [g.1]; exact ⟨hb, hf⟩⟩
    simp only [Value.slice.injEq, Option.some.injEq, Addr.mk.injEq] at h
    rw [← h.1.1]; exact hf
  · refine ⟨fun b o n c h p hp => ?_, h2.mono fun y o _ g => g.elim⟩
    simp only [Value.slice.injEq, Option.some.injEq, Addr.mk.injEq] at h
    have := hF _ _ hp
    omega
/-- A tree that is being changed (all of its cells lie from B on, but for its record at m), a hint that may be there, and the answers that are kept. -/
structure Fill (B A m d : Nat) (ord : List Int) (hp : Option Nat) (v : Value) (xs : List It) (rs : List (It × Bool)) (w : World) : Prop where
  tr : ∃ F, TreeAt A ord w m d 1 xs F ∧ (∀ y o, F y o → B ≤ y) ∧ offB v F
  out : OutE Ef B v rs w
  hint : HOk hp w
  lt : m < B ∧ B ≤ w.heap.size ∧ ∀ hb, hp = some hb → m < hb ∧ hb < B
/-- What the changes of a tree change. -/
def fillF (B m : Nat) (hp : Option Nat) : Nat → Nat → Prop := fun y _ => y = m ∨ hp = some y ∨ B ≤ y
theorem Fill.ext {B A m d : Nat} {ord : List Int} {hp : Option Nat} {v : Value} {xs : List It} {rs : List (It × Bool)} {w w' : World} (h : Fill B A m d ord hp v xs rs w) (x : Ext noF w w') : Fill B A m d ord hp v xs rs w' := by
  obtain ⟨F, h1, h2, h3⟩ := h.tr
  exact ⟨⟨F, h1.ext x, h2, h3⟩, h.out.ext x, h.hint.ext0 x, h.lt.1, Nat.le_trans h.lt.2.1 x.size, h.lt.2.2⟩
/-- One change. -/
theorem Fill.step {B A m d : Nat} {ord : List Int} {hp : Option Nat} {v : Value} {xs ys : List It} {rs : List (It × Bool)} {w w' : World} {F F' : Nat → Nat → Prop} (h : Fill B A m d ord hp v xs rs w) (hFB : ∀ y o, F y o → B ≤ y) (ho : offB v F)
    (X : Ext (fun y o => mapF m F y o ∨ Go.Proofs.Ytdffddiaoheklaa.hF hp y o) w w') (hM' : TreeAt A ord w' m d 1 ys F') (hF' : ∀ y o, F' y o → F y o ∨ w.heap.size ≤ y) (hH : HOk hp w') : Fill B A m d ord hp v ys rs w' ∧ Ext (fillF B m hp) w w' := by
  obtain ⟨l1, l2, l3⟩ := h.lt
  refine ⟨⟨⟨F', hM', fun y o g => (hF' y o g).elim (hFB y o) fun g => by omega, fun b o n c hv p g => ?_⟩, ⟨h.out.sl.ext X fun b o c hv i hi g => ?_, h.out.si⟩, hH, l1, Nat.le_trans l2 X.size, l3⟩, X.mono fun y o _ g => ?_⟩
  · rcases hF' b p g with g | g
    · exact ho b o n c hv p g
    · have := h.out.sl.lt hv; omega
  · have := h.out.si _ _ _ _ hv
    rcases g with (g | g) | g
    · exact ho _ _ _ _ hv _ g
    · omega
    · have := l3 _ g; omega
  · rcases g with (g | g) | g
    · exact .inr (.inr (hFB y o g))
    · exact .inl g.1
    · exact .inr (.inl g)
/-- One answer is kept. -/
theorem Fill.app {B A m d : Nat} {ord : List Int} {hp : Option Nat} {v v' : Value} {xs : List It} {rs : List (It × Bool)} {x : It × Bool} {w w' : World} (h : Fill B A m d ord hp v xs rs w) (a : AppRes w 3 v rs.length 1 (flat Ef rs) (Ef.cel x) v' w') :
    Fill B A m d ord hp v' xs (rs ++ [x]) w' ∧ Ext (fillF B m hp) w w' := by
  obtain ⟨F, h1, h2, h3⟩ := h.tr
  obtain ⟨l1, l2, l3⟩ := h.lt
  obtain ⟨g1, g2⟩ := app_off a h.out.si h3 h1.lt l2
  obtain ⟨g3, _⟩ := h.out.app a l2
  exact ⟨⟨⟨F, h1.extG g2 (fun y o hf hg => hg.2 o hf) (fun y o hg => by omega), h2, g1⟩, g3, h.hint.ext g2 fun hb hh o g => by have := l3 hb hh; omega, l1, Nat.le_trans l2 g2.size, l3⟩, g2.mono fun y o _ g => .inr (.inr g.1)⟩
theorem Fill.start {B A m d : Nat} {ord : List Int} {hp : Option Nat} {xs : List It} {F : Nat → Nat → Prop} {w : World} (hM : TreeAt A ord w m d 1 xs F) (hF : ∀ y o, F y o → B ≤ y) (hH : HOk hp w) (l : m < B ∧ B ≤ w.heap.size ∧ ∀ hb, hp = some hb → m < hb ∧ hb < B) :
    Fill B A m d ord hp (.slice none 0 0) xs [] w := ⟨⟨F, hM, hF, offB_nil _⟩, OutE.nil _ _ _, hH, l⟩
end Go.Proofs.Ytdffddiaoheklaa
/-
  The laws on settings. No condition.
-/
set_option linter.unusedSimpArgs false
set_option linter.unusedVariables false
namespace Go.Proofs.Ytdffddiaoheklaa
open Go Go.Proofs
theorem tuple_lt {sz n : Nat} {w : World} {v : Value} {l : List Value} (h : SlV w sz v n l) {ka : Option Addr} {kc : Nat} (hv : v = .slice ka n kc) : ∀ (B : Nat), w.heap.size ≤ B → ∀ b o, ka = some ⟨b, o, none⟩ → b < B := fun B hB b o ha => by
  have := h.lt (hv.trans (by rw [ha])); omega
theorem gempty : treeG [] [] = [] := rfl
set_option maxHeartbeats 1600000 in
set_option maxRecDepth 8000 in
theorem impl_gset (d : Nat) (hd : DOk d) (ord : List Int) (sv : Value) (nl : Bool) (ks : List It) (kv : Value) (w : World) (hs : SlInt w sv ord) (hsb : ord.length ≤ 2147483647) (hks : SlI w kv ks) (hkb : ks.length ≤ 2147483647) :
    CallK Try.prog 32 #[mkV sv d nl, kv] w fun v w' => ∃ v1 v2, v = .tuple #[v1, v2] ∧ SlV w' 3 v1 (reps ord ks).length (flat Ef (reps ord ks)) ∧ SlI w' v2 (treeG ord ks) ∧ Ext noF w w' := by
  refine calls_of_W [.tmp 4, .tmp 5] Try.func32 rfl Try.ntmps32 Try.results32 (by simp) fun e he => ?_
  have e0 : e 0 = mkV sv d nl := he 0 _ rfl
  have e1 : e 1 = kv := he 1 _ rfl
  clear he
  obtain ⟨ka, kc, hkv⟩ := hks.shape
  rw [hkv] at e1
  obtain ⟨hd2, hd3⟩ := hd.of
  refine W_sq fun K hK => (W_text [false, true, true] (by kernel_rfl) ?_); simp only [↓List.toList_toArray, ↓rgd, ↓rgf, ↓reduceIte, Nat.reduceEqDiff, rg, ow_32]
  refine do_box (by simp only [evt]; exact e0) fun w1 n1 => ⟨trivial, ?_⟩
  simp only [↓List.toList_toArray, ↓rgd, ↓rgf, ↓reduceIte, Nat.reduceEqDiff, rg, ow_32]
  refine hK _ _ ?_; clear hK K
  have rm := mk_at (show Row w1 w.heap.size 0 (mkL sv d nl) from n1.row)
  refine W_sq fun K hK => (W_text [true, false, true] (by kernel_rfl) ?_); simp only [↓List.toList_toArray, ↓rgd, ↓rgf, ↓reduceIte, Nat.reduceEqDiff, rg, ow_32, rm]
  refine do_call fn_54 (by simp only [evt, evc, upd_eq, Nat.reduceEqDiff, ↓reduceIte, maT, maC, maN, isnN, isnS] <;> rfl) (growG_any d hd ord sv nl [] (.slice none 0 0) w1 (SlV.ext0 hs n1.ext) hsb ⟨rfl, .inl ⟨rfl, rfl⟩⟩ (by simp)) ?_
  rintro _ w0 ⟨X2, A, m, F, rfl, hM0, hm, hFs⟩
  have X02 := n1.ext.tr X2
  have s1 := n1.size
  have s02 := X02.size
  refine ⟨trivial, ?_⟩
  simp only [↓List.toList_toArray, ↓rgd, ↓rgf, ↓reduceIte, Nat.reduceEqDiff, rg, ow_32]
  refine hK _ _ ?_; clear hK K
  refine W_sq fun K hK => (W_text [true] (by kernel_rfl) ?_); simp only [↓List.toList_toArray, ↓rgd, ↓rgf, ↓reduceIte, Nat.reduceEqDiff, rg, ow_32]
  refine hK _ _ ?_; clear hK K
  have hk0 : SlI w0 kv ks := SlV.ext0 hks X02
  have hml := hM0.mlt
  obtain ⟨B, hB⟩ : ∃ B, B = m + 1 := ⟨_, rfl⟩
  have hfill : Fill B A m (degOf d) ord none (.slice none 0 0) (treeG ord (ks.take 0)) (reps ord (ks.take 0)) w0 := Fill.start hM0 (fun y o g => by have := hM0.above y o g; omega) (HOk.none _) ⟨by omega, by omega, fun _ h => by cases h⟩
  have hkl : ∀ b o n c, kv = .slice (some ⟨b, o, none⟩) n c → b < w.heap.size := fun b o n c h => SlV.lt hks h
  clear hM0 X2 n1

  refine W_seq (W_seq ?_)
  refine W_rg fun K hK => (W_text [true, true, true] (by kernel_rfl) ?_); simp only [↓List.toList_toArray, ↓rgd, ↓rgf, ↓reduceIte, Nat.reduceEqDiff, rg, ow_32, e1]
  refine hK _ _ ?_; clear hK K
  show W _ _ _ _ _ _
  refine W_block (W_loop (fun mm e w' => ∃ k : Nat, mm = ks.length - k ∧ k ≤ ks.length ∧ e 12 = .slice ka ks.length kc ∧ e 13 = .int .i64 ks.length ∧ e 14 = .int .i64 k ∧ e 6 = ptr m ∧ Fill B A m (degOf d) ord none (e 7) (treeG ord (ks.take k)) (reps ord (ks.take k)) w' ∧ Ext (fillF B m none) w0 w')
    ks.length ⟨0, by simp, by simp, by simp only [upd_eq, Nat.reduceEqDiff, ↓reduceIte], by simp only [upd_eq, Nat.reduceEqDiff, ↓reduceIte], by simp only [upd_eq, Nat.reduceEqDiff, ↓reduceIte]; rfl, by simp only [upd_eq, Nat.reduceEqDiff, ↓reduceIte], by simp only [upd_eq, Nat.reduceEqDiff, ↓reduceIte]; exact hfill, Ext.refl _ _⟩ ?_)
  clear hfill e0 e1 e
  rintro mm e w' ⟨k, rfl, hk, eS, eL, eI, eM, hfl, X⟩
  by_cases hlt : k < ks.length
  · have ht := lt_tt k ks.length hlt
    refine W_sq fun K hK => (W_text [true] (by kernel_rfl) ?_); simp only [↓List.toList_toArray, ↓rgd, ↓rgf, ↓reduceIte, Nat.reduceEqDiff, rg, ow_32, eL, eI, ht]
    refine hK _ _ ?_; clear hK K
    refine W_seq (W_true (by simp only [evt, evc, upd_eq, Nat.reduceEqDiff, ↓reduceIte, ntT, ntF] <;> rfl) (W_skip ?_))
    show W _ _ _ _ _ _
    obtain ⟨x, hx⟩ : ∃ x, ks[k]? = some x := ⟨_, List.getElem?_eq_getElem hlt⟩
    obtain ⟨ib, io, hka, row⟩ := hk0.at hkv hlt
    have hibl := hk0.lt (hkv.trans (by rw [hka]))
    have ixx := it_at (X.row row (fun _ _ h => by have := hkl _ _ _ _ (hkv.trans (by rw [hka])); rcases h with h | h | h <;> first | omega | cases h)) hx
    rw [hka] at eS
    refine W_seq (W_block ?_)
    refine W_sq fun K hK => (W_text [true, true, false, false] (by kernel_rfl) ?_); simp only [↓List.toList_toArray, ↓rgd, ↓rgf, ↓reduceIte, Nat.reduceEqDiff, rg, ow_32, eS, eI, hlt, ixx]
    refine do_alloc z_it fun w2 n2 => ⟨trivial, ?_⟩
    simp only [↓List.toList_toArray, ↓rgd, ↓rgf, ↓reduceIte, Nat.reduceEqDiff, rg, ow_32]
    refine do_store (v := itV x) (by simp only [evt, evc, upd_eq, Nat.reduceEqDiff, ↓reduceIte, ntT, ntF] <;> rfl) (by simp only [evt, evc, upd_eq, Nat.reduceEqDiff, ↓reduceIte, ntT, ntF] <;> rfl) sz_38 rfl n2.wok (by decide) (itV_oc x) fun w3 x3 r3 s3 => ⟨trivial, ?_⟩
    simp only [↓List.toList_toArray, ↓rgd, ↓rgf, ↓reduceIte, Nat.reduceEqDiff, rg, ow_32]
    refine hK _ _ ?_; clear hK K
    have s2 := n2.size
    have X3 : Ext noF w' w3 := noF_of n2.ext x3 fun y o hy h => by simp only [rng] at h; omega
    have s3 := X3.size
    have ix3 := iX_at (show Row w3 w'.heap.size 0 (E.cel x) from r3)
    rw [← hka] at eS
    have sX := X.size
    obtain ⟨l1, l2, l3⟩ := hfl.lt
    obtain ⟨F0, hM0, hF0, ho0⟩ := hfl.tr
    have hfl3 := hfl.ext X3
    have htl := treeG_len ord (ks.take k)
    have htk : (ks.take k).length ≤ k := by rw [List.length_take]; omega
    refine W_rg fun K hK => (W_text [true, true, true, false, true, true, false, false, false, true] (by kernel_rfl) ?_); simp only [↓List.toList_toArray, ↓rgd, ↓rgf, ↓reduceIte, Nat.reduceEqDiff, rg, ow_32, eM, ix3]
    refine do_call fn_60 (by simp only [evt, evc, upd_eq, Nat.reduceEqDiff, ↓reduceIte, maT, maC, maN, isnN, isnS] <;> rfl) (setG_any A m (degOf d) 1 ord x hd2 hd3 _ F0 w3 (hM0.ext X3) (by omega)) ?_
    rintro _ w4 ⟨rfl, x4, F', hM4, hF'⟩
    refine ⟨trivial, ?_⟩
    simp only [↓List.toList_toArray, ↓rgd, ↓rgf, ↓reduceIte, Nat.reduceEqDiff, rg, ow_32]
    obtain ⟨hfl4, X4⟩ := hfl3.step hF0 ho0 (x4.mono fun _ _ _ g => .inl g) hM4 hF' (HOk.none _)
    refine do_call fn_59 (by simp only [evt, evc, upd_eq, Nat.reduceEqDiff, ↓reduceIte, maT, maC, maN, isnN, isnS] <;> rfl) (found_any _ _ w4) ?_
    rintro _ w5 ⟨rfl, X5⟩
    refine ⟨trivial, ?_⟩
    simp only [↓List.toList_toArray, ↓rgd, ↓rgf, ↓reduceIte, Nat.reduceEqDiff, rg, ow_32]
    refine do_bsl rfl (bs_fo1 _) fun w6 n6 => ⟨trivial, ?_⟩
    simp only [↓List.toList_toArray, ↓rgd, ↓rgf, ↓reduceIte, Nat.reduceEqDiff, rg, ow_32]
    have X6 := X5.tr n6.ext
    have s6 := X6.size
    have hrl : (reps ord (ks.take k)).length = k := by rw [reps_length, List.length_take]; omega
    rw [foP_at] at n6
    have hx6 : SlV w6 3 (.slice (some ⟨w5.heap.size, 0, none⟩) 1 1) 1 (Ef.cel (foO (at? O (rkI ord) (rkI ord x) (treeG ord (ks.take k))))) := ⟨rfl, .inr ⟨_, 0, 1, rfl, Nat.le_refl _, n6.row, n6.wok.R (Nat.le_refl _)⟩⟩
    have hfl6 := hfl4.ext X6
    refine do_append (by simp only [evt, evc, upd_eq, Nat.reduceEqDiff, ↓reduceIte, ntT, ntF] <;> rfl) (by simp only [evt, evc, upd_eq, Nat.reduceEqDiff, ↓reduceIte, ntT, ntF] <;> rfl) el_fo rfl ni_fo hfl6.out.sl hx6 (by omega) (by decide) (Ef.one _) fun v7 w7 a7 => ?_
    obtain ⟨hfl7, X7⟩ := hfl6.app a7
    refine ⟨trivial, ?_⟩
    simp only [↓List.toList_toArray, ↓rgd, ↓rgf, ↓reduceIte, Nat.reduceEqDiff, rg, ow_32]
    refine hK _ _ ?_; clear hK K
    show W _ _ _ _ _ _
    have q1 := wadd1 k (by omega)
    refine W_rg fun K hK => (W_text [true, true] (by kernel_rfl) ?_); simp only [↓List.toList_toArray, ↓rgd, ↓rgf, ↓reduceIte, Nat.reduceEqDiff, rg, ow_32, eI, q1]
    refine hK _ _ ?_; clear hK K
    refine ⟨_, ?_, k + 1, rfl, hlt, by simp only [upd_eq, Nat.reduceEqDiff, ↓reduceIte]; exact eS, by simp only [upd_eq, Nat.reduceEqDiff, ↓reduceIte]; exact eL, by simp only [upd_eq, Nat.reduceEqDiff, ↓reduceIte], by simp only [upd_eq, Nat.reduceEqDiff, ↓reduceIte]; exact eM, by simp only [upd_eq, Nat.reduceEqDiff, ↓reduceIte]; rw [reps_succ hx, treeG_succ ord ks k x hx]; exact hfl7, (((X.tr (X3.mono fun _ _ _ h => h.elim)).tr X4).tr (X6.mono fun _ _ _ h => h.elim)).tr X7⟩
    omega
  · obtain rfl : k = ks.length := by omega
    have ht := lt_ff ks.length ks.length (by omega)
    refine W_sq fun K hK => (W_text [true] (by kernel_rfl) ?_); simp only [↓List.toList_toArray, ↓rgd, ↓rgf, ↓reduceIte, Nat.reduceEqDiff, rg, ow_32, eL, eI, ht]
    refine hK _ _ ?_; clear hK K
    refine W_seq (W_false (by simp only [evt, evc, upd_eq, Nat.reduceEqDiff, ↓reduceIte, ntT, ntF] <;> rfl) (W_exit ?_))
    simp only [andThen_exit, inBlk_exit, andThen_normal, ↓reduceIte]
    rw [List.take_length] at hfl
    obtain ⟨F, hM, hFB, ho⟩ := hfl.tr
    obtain ⟨l1, l2, l3⟩ := hfl.lt
    have htl := treeG_len ord ks
    refine W_sq fun K hK => (W_text [true, true, false, true, true] (by kernel_rfl) ?_); simp only [↓List.toList_toArray, ↓rgd, ↓rgf, ↓reduceIte, Nat.reduceEqDiff, rg, ow_32, eM]
    refine do_call fn_55 (by simp only [evt, evc, upd_eq, Nat.reduceEqDiff, ↓reduceIte, maT, maC, maN, isnN, isnS] <;> rfl) (itemsG_any A m (degOf d) ord 1 (treeG ord ks) F w' hM (by omega)) ?_
    rintro v8 w8 ⟨hO, X8⟩
    refine ⟨trivial, ?_⟩
    simp only [↓List.toList_toArray, ↓rgd, ↓rgf, ↓reduceIte, Nat.reduceEqDiff, rg, ow_32]
    refine hK _ _ ?_; clear hK K
    refine W_ret (endQ_2 (by simp only [upd_eq, Nat.reduceEqDiff, ↓reduceIte] <;> rfl) (by simp only [upd_eq, Nat.reduceEqDiff, ↓reduceIte] <;> rfl) ⟨_, _, rfl, (hfl.out.ext X8).sl, hO.sl, ?_⟩)
    refine (noF_of X02 X fun y o hy h => ?_).tr X8
    rcases h with h | h | h <;> first | omega | cases h
set_option maxHeartbeats 400000 in
set_option maxRecDepth 8000 in
theorem clearG_any (A m d : Nat) (ord : List Int) (iso : Int) (xs : List It) (F : Nat → Nat → Prop) (w : World) (hM : TreeAt A ord w m d iso xs F) :
    CallK Try.prog 57 #[ptr m] w fun _ w' => TreeAt A ord w' m d iso [] noF ∧ Ext (mapF m noF) w w' ∧ w'.heap.size = w.heap.size := by
  refine calls_of_W [] Try.func57 rfl Try.ntmps57 Try.results57 (by simp) fun e he => ?_
  have e0 : e 0 = ptr m := he 0 _ rfl
  clear he
  refine W_seq ?_
  refine W_sq fun K hK => (W_text [true, false] (by kernel_rfl) ?_); simp only [↓List.toList_toArray, ↓rgd, ↓rgf, ↓reduceIte, Nat.reduceEqDiff, rg, ow_57, e0]
  refine do_call fn_83 (by simp only [evt, evc, upd_eq, Nat.reduceEqDiff, ↓reduceIte, maT, maC, maN, isnN, isnS] <;> rfl) (lock_any _ _ w) ?_
  rintro _ w1 ⟨rfl, hw1⟩
  obtain rfl : w = w1 := hw1
  refine ⟨trivial, ?_⟩
  simp only [↓List.toList_toArray, ↓rgd, ↓rgf, ↓reduceIte, Nat.reduceEqDiff, rg, ow_57]
  refine hK _ _ ?_; clear hK K
  refine W_false (by simp only [evt, evc, upd_eq, Nat.reduceEqDiff, ↓reduceIte, ntT, ntF] <;> rfl) (W_skip ?_)
  show W _ _ _ _ _ _
  refine W_sq fun K hK => (W_text [true, true, true, false] (by kernel_rfl) ?_); simp only [↓List.toList_toArray, ↓rgd, ↓rgf, ↓reduceIte, Nat.reduceEqDiff, rg, ow_57, e0, ptr_eq]
  refine do_store (v := .pointer none) (by simp only [evt, evc, upd_eq, Nat.reduceEqDiff, ↓reduceIte, ntT, ntF] <;> rfl) (by simp only [evt, evc, upd_eq, Nat.reduceEqDiff, ↓reduceIte, ntT, ntF] <;> rfl) sz_96 rfl hM.cfg.wok (by decide) (oc_one rfl rfl) fun w2 x2 r2 s2 => ⟨trivial, ?_⟩
  simp only [↓List.toList_toArray, ↓rgd, ↓rgf, ↓reduceIte, Nat.reduceEqDiff, rg, ow_57]
  refine hK _ _ ?_; clear hK K
  refine W_rg fun K hK => (W_text [true, true, true, false] (by kernel_rfl) ?_); simp only [↓List.toList_toArray, ↓rgd, ↓rgf, ↓reduceIte, Nat.reduceEqDiff, rg, ow_57, e0, ptr_eq]
  refine do_store (v := .int .i64 0) (by simp only [evt, evc, upd_eq, Nat.reduceEqDiff, ↓reduceIte, ntT, ntF] <;> rfl) (by simp only [evt, evc, upd_eq, Nat.reduceEqDiff, ↓reduceIte, ntT, ntF] <;> rfl) sz_3 rfl (x2.wok hM.cfg.wok) (by decide) (oc_one rfl rfl) fun w3 x3 r3 s3 => ⟨trivial, ?_⟩
  simp only [↓List.toList_toArray, ↓rgd, ↓rgf, ↓reduceIte, Nat.reduceEqDiff, rg, ow_57]
  refine hK _ _ ?_; clear hK K
  have X : Ext (mapF m noF) w w3 := x2.trans x3 (fun y o g => .inr ⟨g.1, .inl (by have := g.2; omega)⟩) fun y o _ g => .inr ⟨g.1, .inr (by have := g.2; omega)⟩
  have hn : ∀ o, o ≠ 2 → o ≠ 3 → ¬ mapF m noF m o := fun o h2 h3 g => by
    rcases g with g | g
    · exact g
    · omega
  refine endQ_0n ⟨⟨hM.cfg.ext X hn, hM.less.ext X (fun y o g => ?_) (hn 6 (by decide) (by decide)), (Row.cons.1 r3).1, List.Pairwise.nil, .inl ⟨rfl, x3.rd (Row.cons.1 r2).1 (by simp only [rng]; omega)⟩, fun _ g => g, fun _ _ g => g.elim, fun _ _ g => g.elim⟩, X, by omega⟩
  rcases g with g | g
  · exact g.elim
  · omega
set_option maxHeartbeats 400000 in
set_option maxRecDepth 8000 in
theorem lenG_any (A m d : Nat) (ord : List Int) (iso : Int) (xs : List It) (F : Nat → Nat → Prop) (w : World) (hM : TreeAt A ord w m d iso xs F) :
    CallK Try.prog 58 #[ptr m] w fun v w' => v = .int .i64 xs.length ∧ w' = w := by
  refine calls_of_W [.tmp 2] Try.func58 rfl Try.ntmps58 Try.results58 (by simp) fun e he => ?_
  have e0 : e 0 = ptr m := he 0 _ rfl
  clear he
  have hc := hM.cnt
  refine W_sq fun K hK => (W_text [true] (by kernel_rfl) ?_); simp only [↓List.toList_toArray, ↓rgd, ↓rgf, ↓reduceIte, Nat.reduceEqDiff, rg, ow_58]
  refine hK _ _ ?_; clear hK K
  refine W_sq fun K hK => (W_text [true, true, true, true, true] (by kernel_rfl) ?_); simp only [↓List.toList_toArray, ↓rgd, ↓rgf, ↓reduceIte, Nat.reduceEqDiff, rg, ow_58, e0, ptr_eq, hc]
  refine hK _ _ ?_; clear hK K
  exact W_ret (endQ_1 (by simp only [upd_eq, Nat.reduceEqDiff, ↓reduceIte] <;> rfl) ⟨rfl, rfl⟩)
set_option maxHeartbeats 1600000 in
set_option maxRecDepth 8000 in
theorem impl_gclear (d : Nat) (hd : DOk d) (ord : List Int) (sv : Value) (nl : Bool) (l : List It) (lv : Value) (ks : List It) (kv : Value) (w : World) (hs : SlInt w sv ord) (hsb : ord.length ≤ 2147483647) (hl : SlI w lv l) (hbig : l.length ≤ 2147483647) (hks : SlI w kv ks) (hkb : ks.length ≤ 2147483647) :
    CallK Try.prog 31 #[mkV sv d nl, lv, kv] w fun v w' => ∃ v1 v2, v = .tuple #[.int .i64 0, v1, v2] ∧ SlV w' 3 v1 (reps ord ks).length (flat Ef (reps ord ks)) ∧ SlI w' v2 (treeG ord ks) ∧ Ext noF w w' := by
  refine calls_of_W [.tmp 6, .tmp 7, .tmp 8] Try.func31 rfl Try.ntmps31 Try.results31 (by simp) fun e he => ?_
  have e0 : e 0 = mkV sv d nl := he 0 _ rfl
  have e1 : e 1 = lv := he 1 _ rfl
  have e2 : e 2 = kv := he 2 _ rfl
  clear he
  obtain ⟨ka, kc, hkv⟩ := hks.shape
  rw [hkv] at e2
  obtain ⟨hd2, hd3⟩ := hd.of
  refine W_sq fun K hK => (W_text [false, true, true, true] (by kernel_rfl) ?_); simp only [↓List.toList_toArray, ↓rgd, ↓rgf, ↓reduceIte, Nat.reduceEqDiff, rg, ow_31]
  refine do_box (by simp only [evt]; exact e0) fun w1 n1 => ⟨trivial, ?_⟩
  simp only [↓List.toList_toArray, ↓rgd, ↓rgf, ↓reduceIte, Nat.reduceEqDiff, rg, ow_31]
  refine hK _ _ ?_; clear hK K
  have rm := mk_at (show Row w1 w.heap.size 0 (mkL sv d nl) from n1.row)
  refine W_sq fun K hK => (W_text [true, true, false, true] (by kernel_rfl) ?_); simp only [↓List.toList_toArray, ↓rgd, ↓rgf, ↓reduceIte, Nat.reduceEqDiff, rg, ow_31, e1, rm]
  refine do_call fn_54 (by simp only [evt, evc, upd_eq, Nat.reduceEqDiff, ↓reduceIte, maT, maC, maN, isnN, isnS] <;> rfl) (growG_any d hd ord sv nl l lv w1 (SlV.ext0 hs n1.ext) hsb (SlV.ext0 hl n1.ext) (by omega)) ?_
  rintro _ w2 ⟨X2, A, m, F, rfl, hM2, hm, -⟩
  have X02 := n1.ext.tr X2
  have s1 := n1.size
  have s02 := X02.size
  refine ⟨trivial, ?_⟩
  simp only [↓List.toList_toArray, ↓rgd, ↓rgf, ↓reduceIte, Nat.reduceEqDiff, rg, ow_31]
  refine hK _ _ ?_; clear hK K
  have hml := hM2.mlt
  refine W_sq fun K hK => (W_text [true, false] (by kernel_rfl) ?_); simp only [↓List.toList_toArray, ↓rgd, ↓rgf, ↓reduceIte, Nat.reduceEqDiff, rg, ow_31]
  refine do_call fn_57 (by simp only [evt, evc, upd_eq, Nat.reduceEqDiff, ↓reduceIte, maT, maC, maN, isnN, isnS] <;> rfl) (clearG_any A m (degOf d) ord 1 _ F w2 hM2) ?_
  rintro _ w0 ⟨hM0, X20, s20⟩
  refine ⟨trivial, ?_⟩
  simp only [↓List.toList_toArray, ↓rgd, ↓rgf, ↓reduceIte, Nat.reduceEqDiff, rg, ow_31]
  refine hK _ _ ?_; clear hK K
  refine W_sq fun K hK => (W_text [true, false, true] (by kernel_rfl) ?_); simp only [↓List.toList_toArray, ↓rgd, ↓rgf, ↓reduceIte, Nat.reduceEqDiff, rg, ow_31]
  refine do_call fn_58 (by simp only [evt, evc, upd_eq, Nat.reduceEqDiff, ↓reduceIte, maT, maC, maN, isnN, isnS] <;> rfl) (lenG_any A m (degOf d) ord 1 _ noF w0 hM0) ?_
  rintro _ w00 ⟨rfl, hw00⟩
  obtain rfl : w0 = w00 := hw00.symm
  refine ⟨trivial, ?_⟩
  simp only [↓List.toList_toArray, ↓rgd, ↓rgf, ↓reduceIte, Nat.reduceEqDiff, rg, ow_31]
  refine hK _ _ ?_; clear hK K
  refine W_sq fun K hK => (W_text [true] (by kernel_rfl) ?_); simp only [↓List.toList_toArray, ↓rgd, ↓rgf, ↓reduceIte, Nat.reduceEqDiff, rg, ow_31]
  refine hK _ _ ?_; clear hK K
  have X02 : Ext noF w w0 := noF_of X02 X20 fun y o hy g => by
    rcases g with g | g
    · exact g
    · omega
  have s02 := X02.size
  have hk0 : SlI w0 kv ks := SlV.ext0 hks X02
  have hml := hM0.mlt
  obtain ⟨B, hB⟩ : ∃ B, B = m + 1 := ⟨_, rfl⟩
  have hfill : Fill B A m (degOf d) ord none (.slice none 0 0) (treeG ord (ks.take 0)) (reps ord (ks.take 0)) w0 := Fill.start hM0 (fun y o g => g.elim) (HOk.none _) ⟨by omega, by omega, fun _ h => by cases h⟩
  have hkl : ∀ b o n c, kv = .slice (some ⟨b, o, none⟩) n c → b < w.heap.size := fun b o n c h => SlV.lt hks h
  clear hM0 hM2 X2 n1 X20

  refine W_seq (W_seq ?_)
  refine W_rg fun K hK => (W_text [true, true, true] (by kernel_rfl) ?_); simp only [↓List.toList_toArray, ↓rgd, ↓rgf, ↓reduceIte, Nat.reduceEqDiff, rg, ow_31, e2]
  refine hK _ _ ?_; clear hK K
  show W _ _ _ _ _ _
  refine W_block (W_loop (fun mm e w' => ∃ k : Nat, mm = ks.length - k ∧ k ≤ ks.length ∧ e 21 = .slice ka ks.length kc ∧ e 22 = .int .i64 ks.length ∧ e 23 = .int .i64 k ∧ e 9 = ptr m ∧ e 10 = .int .i64 0 ∧ Fill B A m (degOf d) ord none (e 11) (treeG ord (ks.take k)) (reps ord (ks.take k)) w' ∧ Ext (fillF B m none) w0 w')
    ks.length ⟨0, by simp, by simp, by simp only [upd_eq, Nat.reduceEqDiff, ↓reduceIte], by simp only [upd_eq, Nat.reduceEqDiff, ↓reduceIte], by simp only [upd_eq, Nat.reduceEqDiff, ↓reduceIte]; rfl, by simp only [upd_eq, Nat.reduceEqDiff, ↓reduceIte], by simp only [upd_eq, Nat.reduceEqDiff, ↓reduceIte]; rfl, by simp only [upd_eq, Nat.reduceEqDiff, ↓reduceIte]; exact hfill, Ext.refl _ _⟩ ?_)
  clear hfill e0 e1 e2 e
  rintro mm e w' ⟨k, rfl, hk, eS, eL, eI, eM, e10, hfl, X⟩
  by_cases hlt : k < ks.length
  · have ht := lt_tt k ks.length hlt
    refine W_sq fun K hK => (W_text [true] (by kernel_rfl) ?_); simp only [↓List.toList_toArray, ↓rgd, ↓rgf, ↓reduceIte, Nat.reduceEqDiff, rg, ow_31, eL, eI, ht]
    refine hK _ _ ?_; clear hK K
    refine W_seq (W_true (by simp only [evt, evc, upd_eq, Nat.reduceEqDiff, ↓reduceIte, ntT, ntF] <;> rfl) (W_skip ?_))
    show W _ _ _ _ _ _
    obtain ⟨x, hx⟩ : ∃ x, ks[k]? = some x := ⟨_, List.getElem?_eq_getElem hlt⟩
    obtain ⟨ib, io, hka, row⟩ := hk0.at hkv hlt
    have hibl := hk0.lt (hkv.trans (by rw [hka]))
    have ixx := it_at (X.row row (fun _ _ h => by have := hkl _ _ _ _ (hkv.trans (by rw [hka])); rcases h with h | h | h <;> first | omega | cases h)) hx
    rw [hka] at eS
    refine W_seq (W_block ?_)
    refine W_sq fun K hK => (W_text [true, true, false, false] (by kernel_rfl) ?_); simp only [↓List.toList_toArray, ↓rgd, ↓rgf, ↓reduceIte, Nat.reduceEqDiff, rg, ow_31, eS, eI, hlt, ixx]
    refine do_alloc z_it fun w2 n2 => ⟨trivial, ?_⟩
    simp only [↓List.toList_toArray, ↓rgd, ↓rgf, ↓reduceIte, Nat.reduceEqDiff, rg, ow_31]
    refine do_store (v := itV x) (by simp only [evt, evc, upd_eq, Nat.reduceEqDiff, ↓reduceIte, ntT, ntF] <;> rfl) (by simp only [evt, evc, upd_eq, Nat.reduceEqDiff, ↓reduceIte, ntT, ntF] <;> rfl) sz_38 rfl n2.wok (by decide) (itV_oc x) fun w3 x3 r3 s3 => ⟨trivial, ?_⟩
    simp only [↓List.toList_toArray, ↓rgd, ↓rgf, ↓reduceIte, Nat.reduceEqDiff, rg, ow_31]
    refine hK _ _ ?_; clear hK K
    have s2 := n2.size
    have X3 : Ext noF w' w3 := noF_of n2.ext x3 fun y o hy h => by simp only [rng] at h; omega
    have s3 := X3.size
    have ix3 := iX_at (show Row w3 w'.heap.size 0 (E.cel x) from r3)
    rw [← hka] at eS
    have sX := X.size
    obtain ⟨l1, l2, l3⟩ := hfl.lt
    obtain ⟨F0, hM0, hF0, ho0⟩ := hfl.tr
    have hfl3 := hfl.ext X3
    have htl := treeG_len ord (ks.take k)
    have htk : (ks.take k).length ≤ k := by rw [List.length_take]; omega
    refine W_rg fun K hK => (W_text [true, true, true, false, true, true, false, false, false, true] (by kernel_rfl) ?_); simp only [↓List.toList_toArray, ↓rgd, ↓rgf, ↓reduceIte, Nat.reduceEqDiff, rg, ow_31, eM, ix3]
    refine do_call fn_60 (by simp only [evt, evc, upd_eq, Nat.reduceEqDiff, ↓reduceIte, maT, maC, maN, isnN, isnS] <;> rfl) (setG_any A m (degOf d) 1 ord x hd2 hd3 _ F0 w3 (hM0.ext X3) (by omega)) ?_
    rintro _ w4 ⟨rfl, x4, F', hM4, hF'⟩
    refine ⟨trivial, ?_⟩
    simp only [↓List.toList_toArray, ↓rgd, ↓rgf, ↓reduceIte, Nat.reduceEqDiff, rg, ow_31]
    obtain ⟨hfl4, X4⟩ := hfl3.step hF0 ho0 (x4.mono fun _ _ _ g => .inl g) hM4 hF' (HOk.none _)
    refine do_call fn_59 (by simp only [evt, evc, upd_eq, Nat.reduceEqDiff, ↓reduceIte, maT, maC, maN, isnN, isnS] <;> rfl) (found_any _ _ w4) ?_
    rintro _ w5 ⟨rfl, X5⟩
    refine ⟨trivial, ?_⟩
    simp only [↓List.toList_toArray, ↓rgd, ↓rgf, ↓reduceIte, Nat.reduceEqDiff, rg, ow_31]
    refine do_bsl rfl (bs_fo1 _) fun w6 n6 => ⟨trivial, ?_⟩
    simp only [↓List.toList_toArray, ↓rgd, ↓rgf, ↓reduceIte, Nat.reduceEqDiff, rg, ow_31]
    have X6 := X5.tr n6.ext
    have s6 := X6.size
    have hrl : (reps ord (ks.take k)).length = k := by rw [reps_length, List.length_take]; omega
    rw [foP_at] at n6
    have hx6 : SlV w6 3 (.slice (some ⟨w5.heap.size, 0, none⟩) 1 1) 1 (Ef.cel (foO (at? O (rkI ord) (rkI ord x) (treeG ord (ks.take k))))) := ⟨rfl, .inr ⟨_, 0, 1, rfl, Nat.le_refl _, n6.row, n6.wok.R (Nat.le_refl _)⟩⟩
    have hfl6 := hfl4.ext X6
    refine do_append (by simp only [evt, evc, upd_eq, Nat.reduceEqDiff, ↓reduceIte, ntT, ntF] <;> rfl) (by simp only [evt, evc, upd_eq, Nat.reduceEqDiff, ↓reduceIte, ntT, ntF] <;> rfl) el_fo rfl ni_fo hfl6.out.sl hx6 (by omega) (by decide) (Ef.one _) fun v7 w7 a7 => ?_
    obtain ⟨hfl7, X7⟩ := hfl6.app a7
    refine ⟨trivial, ?_⟩
    simp only [↓List.toList_toArray, ↓rgd, ↓rgf, ↓reduceIte, Nat.reduceEqDiff, rg, ow_31]
    refine hK _ _ ?_; clear hK K
    show W _ _ _ _ _ _
    have q1 := wadd1 k (by omega)
    refine W_rg fun K hK => (W_text [true, true] (by kernel_rfl) ?_); simp only [↓List.toList_toArray, ↓rgd, ↓rgf, ↓reduceIte, Nat.reduceEqDiff, rg, ow_31, eI, q1]
    refine hK _ _ ?_; clear hK K
    refine ⟨_, ?_, k + 1, rfl, hlt, by simp only [upd_eq, Nat.reduceEqDiff, ↓reduceIte]; exact eS, by simp only [upd_eq, Nat.reduceEqDiff, ↓reduceIte]; exact eL, by simp only [upd_eq, Nat.reduceEqDiff, ↓reduceIte], by simp only [upd_eq, Nat.reduceEqDiff, ↓reduceIte]; exact eM, by simp only [upd_eq, Nat.reduceEqDiff, ↓reduceIte]; exact e10, by simp only [upd_eq, Nat.reduceEqDiff, ↓reduceIte]; rw [reps_succ hx, treeG_succ ord ks k x hx]; exact hfl7, (((X.tr (X3.mono fun _ _ _ h => h.elim)).tr X4).tr (X6.mono fun _ _ _ h => h.elim)).tr X7⟩
    omega
  · obtain rfl : k = ks.length := by omega
    have ht := lt_ff ks.length ks.length (by omega)
    refine W_sq fun K hK => (W_text [true] (by kernel_rfl) ?_); simp only [↓List.toList_toArray, ↓rgd, ↓rgf, ↓reduceIte, Nat.reduceEqDiff, rg, ow_31, eL, eI, ht]
    refine hK _ _ ?_; clear hK K
    refine W_seq (W_false (by simp only [evt, evc, upd_eq, Nat.reduceEqDiff, ↓reduceIte, ntT, ntF] <;> rfl) (W_exit ?_))
    simp only [andThen_exit, inBlk_exit, andThen_normal, ↓reduceIte]
    rw [List.take_length] at hfl
    obtain ⟨F, hM, hFB, ho⟩ := hfl.tr
    obtain ⟨l1, l2, l3⟩ := hfl.lt
    have htl := treeG_len ord ks
    refine W_sq fun K hK => (W_text [true, true, true, false, true, true, true] (by kernel_rfl) ?_); simp only [↓List.toList_toArray, ↓rgd, ↓rgf, ↓reduceIte, Nat.reduceEqDiff, rg, ow_31, eM, e10]
    refine do_call fn_55 (by simp only [evt, evc, upd_eq, Nat.reduceEqDiff, ↓reduceIte, maT, maC, maN, isnN, isnS] <;> rfl) (itemsG_any A m (degOf d) ord 1 (treeG ord ks) F w' hM (by omega)) ?_
    rintro v8 w8 ⟨hO, X8⟩
    refine ⟨trivial, ?_⟩
    simp only [↓List.toList_toArray, ↓rgd, ↓rgf, ↓reduceIte, Nat.reduceEqDiff, rg, ow_31]
    refine hK _ _ ?_; clear hK K
    refine W_ret (endQ_3 (by simp only [upd_eq, Nat.reduceEqDiff, ↓reduceIte] <;> rfl) (by simp only [upd_eq, Nat.reduceEqDiff, ↓reduceIte] <;> rfl) (by simp only [upd_eq, Nat.reduceEqDiff, ↓reduceIte] <;> rfl) ⟨_, _, rfl, (hfl.out.ext X8).sl, hO.sl, ?_⟩)
    refine (noF_of X02 X fun y o hy h => ?_).tr X8
    rcases h with h | h | h <;> first | omega | cases h
end Go.Proofs.Ytdffddiaoheklaa
/-
  Walks down a tree that change the counts on their way, and take the changes back or make a change at the end. For items of whatever make; no program. No condition.
-/
set_option linter.unusedSimpArgs false
set_option linter.unusedVariables false
namespace Go.Proofs.Ytdffddiaoheklaa
open Go
variable {α : Type} {E : Enc α} {iso : Int} {mn mx : Nat}
theorem Ext.heal {F : Nat → Nat → Prop} {w w' : World} (h : Ext F w w') {b o : Nat} {v : Value} (h1 : Go.Proofs.Ytdffddiaoheklaa.rd w b o = some v) (h2 : Go.Proofs.Ytdffddiaoheklaa.rd w' b o = some v) : Ext (fun y p => F y p ∧ ¬ (y = b ∧ p = o)) w w' := by
  refine ⟨h.os, h.output, h.tape, h.size, fun y arr T fr hy => ?_, h.other⟩
  obtain ⟨arr', g1, g2, g3⟩ := h.cells y arr T fr hy
  refine ⟨arr', g1, g2, fun p hp => ?_⟩
  by_cases hb : y = b ∧ p = o
  · obtain ⟨rfl, rfl⟩ := hb
    rw [rd_of hy] at h1
    rw [rd_of g1] at h2
    rw [h1, h2]
  · exact g3 p fun hf => hp ⟨hf, hb⟩
/-- The child that is chosen by the number of children. -/
def selKid (sel : Nat → Nat) (w : World) (b c : Nat) : Prop :=
  ∃ bc ba oa n cap, rd w b 3 = some (ptr bc) ∧ rd w bc 0 = some (.slice (some ⟨ba, oa, none⟩) n cap) ∧ rd w ba (oa + sel n) = some (ptr c)
theorem selKid.uniq {sel : Nat → Nat} {w : World} {b c c' : Nat} (h : selKid sel w b c) (h' : selKid sel w b c') : c = c' := by
  obtain ⟨bc, ba, oa, n, cap, h1, h2, h3⟩ := h
  obtain ⟨bc', ba', oa', n', cap', g1, g2, g3⟩ := h'
  rw [h1] at g1; simp only [ptr, Option.some.injEq, Value.pointer.injEq, Addr.mk.injEq, and_true] at g1; subst g1
  rw [h2] at g2; simp only [Option.some.injEq, Value.slice.injEq, Addr.mk.injEq, and_true] at g2
  obtain ⟨⟨rfl, rfl⟩, rfl, rfl⟩ := g2
  rw [h3] at g3; simp only [ptr, Option.some.injEq, Value.pointer.injEq, Addr.mk.injEq, and_true] at g3
  exact g3
/-- The nodes on the way down. -/
def RS (sel : Nat → Nat) (w : World) : Nat → Nat → Nat → Prop
  | 0, b, y => y = b
  | h + 1, b, y => y = b ∨ ∃ c, selKid sel w b c ∧ RS sel w h c y
theorem Inn.sel {h : Nat} {w : World} {b : Nat} {xs : List α} {F : Nat → Nat → Prop} {bi oi cap : Nat} {ks : List α} {bc ba oa capc : Nat} {cs : List (Kid α)} (n : Inn E iso mn mx h w b xs F bi oi cap ks bc ba oa capc cs)
    (h3 : rd w b 3 = some (ptr bc)) {sel : Nat → Nat} {c : Kid α} (hc : cs[sel cs.length]? = some c) : selKid sel w b c.b := by
  refine ⟨bc, ba, oa, _, capc, h3, n.kids.c0, ?_⟩
  rw [List.length_map]
  exact n.kids.row _ _ (by rw [List.getElem?_map, List.getElem?_map, hc]; rfl)
theorem Inn.rs {h : Nat} {w : World} {b : Nat} {xs : List α} {F : Nat → Nat → Prop} {bi oi cap : Nat} {ks : List α} {bc ba oa capc : Nat} {cs : List (Kid α)} (n : Inn E iso mn mx h w b xs F bi oi cap ks bc ba oa capc cs)
    (h3 : rd w b 3 = some (ptr bc)) {sel : Nat → Nat} {c : Kid α} (hc : cs[sel cs.length]? = some c) (y : Nat) : RS sel w (h + 1) b y ↔ y = b ∨ RS sel w h c.b y := by
  have hs := n.sel h3 hc
  constructor
  · rintro (h | ⟨c', h1, h2⟩)
    · exact .inl h
    · rw [h1.uniq hs] at h2; exact .inr h2
  · rintro (h | h)
    · exact .inl h
    · exact .inr ⟨_, hs, h⟩
theorem RS.sub {sel : Nat → Nat} (hsel : ∀ n, 0 < n → sel n < n) {w : World} : ∀ {h lo b : Nat} {xs : List α} {F : Nat → Nat → Prop}, Tr E iso mn mx h w lo b xs F → ∀ y, RS sel w h b y → ∀ o, F y o
  | 0, _, _, _, _, ht, y, hy, o => by rw [show y = _ from hy]; exact ht.self o
  | h + 1, _, b, _, F, ht, y, hy, o => by
    obtain ⟨bi, oi, cap, ks, ch, ho, _, _, hsub, ⟨h0, _⟩ | ⟨h', bc, ba, oa, capc, cs, hh, rfl, n⟩⟩ := ht.open
    · omega
    · obtain rfl : h = h' := by omega
      obtain ⟨c, hc⟩ : ∃ c, cs[sel cs.length]? = some c := ⟨_, List.getElem?_eq_getElem (hsel _ (by have := n.len; omega))⟩
      rcases (n.rs ho.h3 hc y).1 hy with rfl | hy
      · exact hsub _ _ (.inl rfl)
      · exact (n.fp y o).2 (.inr (.inr ⟨c, List.mem_of_getElem? hc, RS.sub hsel (n.sub c (List.mem_of_getElem? hc)) y hy o⟩))
/-- The counts of some nodes are off. -/
structure Shift (δ : Int) (w0 w' : World) (D : Nat → Prop) : Prop where
  ext : Ext (fun y o => o = 1 ∧ D y) w0 w'
  cnt : ∀ y, D y → ∃ k : Int, rd w0 y 1 = some (.int .i64 k) ∧ rd w' y 1 = some (.int .i64 (k + δ))
theorem Shift.nil (δ : Int) (w : World) : Shift δ w w fun _ => False := ⟨Ext.refl _ _, fun _ h => h.elim⟩
theorem Shift.ro {δ : Int} {w0 w1 w2 : World} {D : Nat → Prop} (h : Shift δ w0 w1 D) (r : RO w1 w2) : Shift δ w0 w2 D :=
  ⟨h.ext.tr r.ext, fun y hy => by obtain ⟨k, h1, h2⟩ := h.cnt y hy; exact ⟨k, h1, (r.ext (F := noF)).rd h2 fun h => h⟩⟩
theorem Shift.congr {δ : Int} {w0 w1 : World} {D D' : Nat → Prop} (h : Shift δ w0 w1 D) (hd : ∀ y, D' y ↔ D y) : Shift δ w0 w1 D' :=
  ⟨h.ext.mono fun y o _ g => ⟨g.1, (hd y).2 g.2⟩, fun y hy => h.cnt y ((hd y).1 hy)⟩
/-- One more count is changed. -/
theorem Shift.add {δ : Int} {w0 w1 w2 : World} {D : Nat → Prop} (h : Shift δ w0 w1 D) {b : Nat} {k : Int} (hD : ¬ D b) (h0 : rd w0 b 1 = some (.int .i64 k)) (x : Ext (rng b 1 1) w1 w2) (h2 : rd w2 b 1 = some (.int .i64 (k + δ))) :
    Shift δ w0 w2 fun y => D y ∨ y = b := by
  refine ⟨(h.ext.mono fun y o _ g => ⟨g.1, .inl g.2⟩).trans x (fun _ _ g => g) fun y o _ g => ?_, fun y hy => ?_⟩
  · simp only [rng] at g; exact ⟨by omega, .inr g.1⟩
  · rcases hy with hy | rfl
    · obtain ⟨k', g1, g2⟩ := h.cnt y hy
      exact ⟨k', g1, x.rd g2 fun g => hD (by simp only [rng] at g; rw [← g.1]; exact hy)⟩
    · exact ⟨k, h0, h2⟩
/-- One count is taken back. -/
theorem Shift.undo {δ : Int} {w0 w1 w2 : World} {D : Nat → Prop} (h : Shift δ w0 w1 D) {b : Nat} {v : Value} (hD : D b) (h0 : rd w0 b 1 = some v) (x : Ext (rng b 1 1) w1 w2) (h2 : rd w2 b 1 = some v) :
    Shift δ w0 w2 fun y => D y ∧ y ≠ b := by
  have X : Ext (fun y o => o = 1 ∧ D y) w0 w2 := h.ext.trans x (fun _ _ g => g) fun y o _ g => by simp only [rng] at g; rw [g.1]; exact ⟨by omega, hD⟩
  refine ⟨(X.heal h0 h2).mono fun y o _ g => ⟨g.1.1, g.1.2, fun e => g.2 ⟨e, g.1.1⟩⟩, fun y hy => ?_⟩
  obtain ⟨k', g1, g2⟩ := h.cnt y hy.1
  exact ⟨k', g1, x.rd g2 fun g => hy.2 (by simp only [rng] at g; exact g.1)⟩
/-- A whole tree, but for the subtree at b: put in another one, whose length is off by δ, and it is a tree again. -/
def Hole (E : Enc α) (iso : Int) (mn mx H lo0 root : Nat) (F : Nat → Nat → Prop) (S : Nat) (w : World) (h lo b : Nat) (ys : List α) (Fb : Nat → Nat → Prop) (A C : List α) (δ : Int) : Prop :=
  ∀ (w2 : World) (ys' : List α) (Fb' : Nat → Nat → Prop), Ext Fb w w2 → Tr E iso mn mx h w2 lo b ys' Fb' → (∀ y o, Fb' y o → Fb y o ∨ w.heap.size ≤ y) → (ys'.length : Int) = ys.length + δ →
    ∃ F', Tr E iso mn mx H w2 lo0 root (A ++ ys' ++ C) F' ∧ ∀ y o, F' y o → F y o ∨ S ≤ y
theorem Hole.root {w : World} {h lo b S : Nat} {ys : List α} {F : Nat → Nat → Prop} {δ : Int} (hS : S ≤ w.heap.size) : Hole E iso mn mx h lo b F S w h lo b ys F [] [] δ :=
  fun w2 ys' Fb' _ ht hF _ => ⟨Fb', by simpa using ht, fun y o g => (hF y o g).imp id fun g => by omega⟩
theorem Hole.ro {H lo0 root S h lo b : Nat} {F Fb : Nat → Nat → Prop} {w w1 : World} {ys A C : List α} {δ : Int} (k : Hole E iso mn mx H lo0 root F S w h lo b ys Fb A C δ) (r : RO w w1) : Hole E iso mn mx H lo0 root F S w1 h lo b ys Fb A C δ := by
  intro w2 ys' Fb' x ht hF hl
  have hs : w1.heap.size = w.heap.size := by obtain ⟨n, rfl⟩ := r; rfl
  exact k w2 ys' Fb' (r.ext.tr x) ht (fun y o g => (hF y o g).imp id fun g => by omega) hl
/-- The hole goes down one level. -/
theorem Hole.down {H lo0 root S h lo b : Nat} {F Fb : Nat → Nat → Prop} {w w1 : World} {ys A C : List α} {δ : Int} (k : Hole E iso mn mx H lo0 root F S w (h + 1) lo b ys Fb A C δ)
    {bi oi cap : Nat} {ks : List α} {bc ba oa capc : Nat} {cs : List (Kid α)} (n : Inn E iso mn mx h w b ys Fb bi oi cap ks bc ba oa capc cs) (ho : Own E w b iso ys.length bi oi cap ks (ptr bc)) (h1 : lo ≤ ks.length) (h2 : ks.length ≤ mx)
    (x : Ext (rng b 1 1) w w1) (hc1 : rd w1 b 1 = some (.int .i64 (ys.length + δ))) {i : Nat} {c : Kid α} (hc : cs[i]? = some c) {A' C' : List α} (hw : WAt (cs.map Kid.xs) ks i A' C') :
    Hole E iso mn mx H lo0 root F S w1 h mn c.b c.xs c.F (A ++ A') (C' ++ C) δ := by
  intro w2 ys' Fb' x2 ht hF hl
  have hcm := List.mem_of_getElem? hc
  have hcx : (cs.map Kid.xs)[i]? = some c.xs := by rw [List.getElem?_map, hc]; rfl
  have hil := (List.getElem?_eq_some_iff.1 hc).1
  have s1 : w.heap.size ≤ w1.heap.size := x.size
  have hbw := wok_lt ho.wb
  have hbiw := wok_lt ho.wi
  have hcb : ∀ o, ¬ c.F b o := fun o g => n.ap.own c hcm _ _ g (.inl rfl)
  have hi1 : ∀ y o, c.F y o → ¬ ownF E b bi oi cap y o := fun y o g => n.ap.own c hcm y o g
  have n1 : Inn E iso mn mx h w1 b ys Fb bi oi cap ks bc ba oa capc cs := n.ext x (fun y o g hr => by
      simp only [rng] at hr
      rcases g with g | g
      · exact n.ap.cb (by omega)
      · exact n.ap.ab (by simp only [rng] at g; omega)) fun d hd y o g hr => by
    simp only [rng] at hr
    exact n.ap.own d hd y o g (.inl hr.1)
  have n2 := n1.child (c' := ⟨c.b, ys', Fb'⟩) hc x2 rfl ht hF (by omega) (by omega)
  have e1 := hw.eq hcx
  have e2 : weave ((cs.map Kid.xs).set i ys') ks = A' ++ ys' ++ C' := by
    exact hw.set ys'
  have hln : (((weave ((cs.map Kid.xs).set i ys') ks).length : Nat) : Int) = ys.length + δ := by
    rw [e2, n.eq, e1]
    simp only [List.length_append, Int.natCast_add]
    omega
  have ho2 : Own E w2 b iso ((weave ((cs.map Kid.xs).set i ys') ks).length : Nat) bi oi cap ks (ptr bc) := by
    have hr : ∀ o, o ≠ 1 → ¬ rng b 1 1 b o := fun o h g => by simp only [rng] at g; omega
    have q0 := x2.rd (x.rd ho.h0 (hr 0 (by decide))) (hcb 0)
    have q1 := x2.rd hc1 (hcb 1)
    have q2 := x2.rd (x.rd ho.h2 (hr 2 (by decide))) (hcb 2)
    have q3 := x2.rd (x.rd ho.h3 (hr 3 (by decide))) (hcb 3)
    rw [← hln] at q1
    exact ⟨q0, q1, q2, q3, x2.wok (x.wok ho.wb), x2.row (x.row ho.row fun j _ g => by simp only [rng] at g; have := ho.ne; omega) fun j hj g => hi1 _ _ g (.inr ⟨rfl, by omega, by rw [flat_length] at hj; have := Nat.mul_le_mul_right E.sz ho.le; omega⟩),
      x2.wok (x.wok ho.wi), ho.le, ho.ne⟩
  have htr := n2.tr (lo := lo) ho2 h1 h2
  have key := k w2 _ _ ?_ htr ?_ hln
  · obtain ⟨F', g1, g2⟩ := key
    refine ⟨F', ?_, g2⟩
    rw [e2] at g1
    simpa [List.append_assoc] using g1
  · refine (x.mono fun y o _ g => ?_).trans x2 (fun _ _ g => g) fun y o _ g => (n.fp y o).2 (.inr (.inr ⟨c, hcm, g⟩))
    simp only [rng] at g; rw [g.1]; exact (n.fp _ _).2 (.inl (.inl rfl))
  · intro y o g
    rcases g with g | g | ⟨d, hd, g⟩
    · exact .inl ((n.fp y o).2 (.inl g))
    · exact .inl ((n.fp y o).2 (.inr (.inl g)))
    · rw [List.set_eq_take_append_cons_drop, if_pos hil] at hd
      rcases List.mem_append.1 hd with hd | hd
      · exact .inl ((n.fp y o).2 (.inr (.inr ⟨d, List.mem_of_mem_take hd, g⟩)))
      · rcases List.mem_cons.1 hd with rfl | hd
        · rcases hF y o g with g | g
          · exact .inl ((n.fp y o).2 (.inr (.inr ⟨c, hcm, g⟩)))
          · exact .inr (by omega)
        · exact .inl ((n.fp y o).2 (.inr (.inr ⟨d, List.mem_of_mem_drop hd, g⟩)))
end Go.Proofs.Ytdffddiaoheklaa
/-
  Setting in ascending order. No condition.
-/
set_option linter.unusedSimpArgs false
set_option linter.unusedVariables false
namespace Go.Proofs.Ytdffddiaoheklaa
open Go Go.Proofs
theorem Shift.e0 {δ : Int} {w0 w1 w2 : World} {D : Nat → Prop} (h : Shift δ w0 w1 D) (r : Ext noF w1 w2) : Shift δ w0 w2 D :=
  ⟨h.ext.tr (r.mono fun _ _ _ g => g.elim), fun y hy => by obtain ⟨k, h1, h2⟩ := h.cnt y hy; exact ⟨k, h1, r.rd h2 fun h => h⟩⟩
section
variable {α R : Type} (O : SOrd R) (κ : α → R)
theorem put_last {x : α} {xs : List α} (h : ∀ y ∈ xs, O.lt (κ y) (κ x) = true) : put O κ x xs = xs ++ [x] ∧ hit O κ (κ x) xs = false ∧ at? O κ (κ x) xs = none := by
  have hl : lb O κ (κ x) xs = xs.length := by have := lb_append_of_lt O κ (q := κ x) (xs := xs) [] h; simpa [lb] using this
  have hh : hit O κ (κ x) xs = false := by unfold hit; rw [hl, List.getElem?_eq_none (Nat.le_refl _)]
  refine ⟨?_, hh, ?_⟩
  · unfold put; rw [hh, hl]; simp
  · unfold at?; rw [hh]; rfl
theorem all_lt {x y : α} {xs ys A : List α} (ha : Asc O κ xs) (hx : xs = A ++ ys) (hy : ys[ys.length - 1]? = some y) (h : O.lt (κ y) (κ x) = true) : ∀ z ∈ xs, O.lt (κ z) (κ x) = true := by
  have hne : ys ≠ [] := fun h => by rw [h] at hy; simp at hy
  have e : ys = ys.dropLast ++ [y] := by
    rw [← List.getLast?_eq_getElem?] at hy
    rw [List.getLast?_eq_some_getLast hne, Option.some.injEq] at hy
    rw [← hy]
    exact (List.dropLast_concat_getLast hne).symm
  rw [hx, e, ← List.append_assoc]
  refine asc_left O κ ?_ h
  rw [hx, e, ← List.append_assoc] at ha
  exact ha
end
def lastSel (n : Nat) : Nat := n - 1
theorem lastSel_lt (n : Nat) (h : 0 < n) : lastSel n < n := by unfold lastSel; omega
set_option maxHeartbeats 2000000 in
set_option maxRecDepth 8000 in
theorem load_tree (A0 m d : Nat) (ord : List Int) (x : It) (hd : 2 ≤ d) (hd' : d ≤ 128) (iso : Int) (xs : List It) (F : Nat → Nat → Prop) (w : World) (hM : TreeAt A0 ord w m d iso xs F) (hbig : xs.length < 1152921504606846976) :
    CallK Try.prog 86 #[ptr m, itV x] w fun v w' => v = .tuple #[itV ((at? O (rkI ord) (rkI ord x) xs).getD zIt), .bool (hit O (rkI ord) (rkI ord x) xs)] ∧ Ext (mapF m F) w w' ∧
      ∃ F', TreeAt A0 ord w' m d iso (put O (rkI ord) x xs) F' ∧ ∀ y o, F' y o → F y o ∨ w.heap.size ≤ y := by
  have hml := hM.mlt
  have hAm : A0 ≤ m := by obtain ⟨_, _, _, h⟩ := hM.less; exact h
  refine calls_of_W [.cell 4 38, .tmp 5] Try.func86 rfl Try.ntmps86 Try.results86 (by simp) fun e he => ?_
  have e0 : e 0 = ptr m := he 0 _ rfl
  have e1 : e 1 = itV x := he 1 _ rfl
  clear he
  refine W_sq fun K0 hK => (W_text [false, false, true] (by kernel_rfl) ?_); simp only [↓List.toList_toArray, ↓rgd, ↓rgf, ↓reduceIte, Nat.reduceEqDiff, rg, ow_86]
  refine do_box (by simp only [evt]; exact e1) fun w1 n1 => ⟨trivial, ?_⟩
  simp only [↓List.toList_toArray, ↓rgd, ↓rgf, ↓reduceIte, Nat.reduceEqDiff, rg, ow_86]
  refine do_alloc z_it fun w2 n2 => ⟨trivial, ?_⟩
  simp only [↓List.toList_toArray, ↓rgd, ↓rgf, ↓reduceIte, Nat.reduceEqDiff, rg, ow_86]
  refine hK _ _ ?_; clear hK K0
  have s1 := n1.size
  have s2 := n2.size
  have s2' : w2.heap.size = w.heap.size + 2 := by omega
  have X2 : Ext noF w w2 := n1.ext.tr n2.ext
  have rx : Row w2 w.heap.size 0 (E.cel x) := n2.ext.row n1.row fun _ _ h => h
  have kq2 : wok w2 w1.heap.size 2 := n2.wok
  have hM2 := hM.ext X2
  have hFlt := hM.lt
  obtain ⟨B, hB⟩ : ∃ B, B = w.heap.size := ⟨_, rfl⟩
  obtain ⟨q, hq⟩ : ∃ q, q = w1.heap.size := ⟨_, rfl⟩
  rw [← hB] at rx s2' ⊢
  rw [← hq] at kq2 ⊢
  have hqB : q = B + 1 := by omega
  clear n1 n2
  have fin : ∀ (e : Env) (w4 w5 : World) (F' : Nat → Nat → Prop), Ext (mapF m F) w w4 → TreeAt A0 ord w4 m d iso (put O (rkI ord) x xs) F' → (∀ y o, F' y o → F y o ∨ B + 2 ≤ y) → Ext (rng q 0 2) w4 w5 → Row w5 q 0 (E.cel ((at? O (rkI ord) (rkI ord x) xs).getD zIt)) →
      e 4 = ptr q → e 5 = .bool (hit O (rkI ord) (rkI ord x) xs) →
      endQ Try.prog [.cell 4 38, .tmp 5] (fun v w' => v = .tuple #[itV ((at? O (rkI ord) (rkI ord x) xs).getD zIt), .bool (hit O (rkI ord) (rkI ord x) xs)] ∧ Ext (mapF m F) w w' ∧
        ∃ F', TreeAt A0 ord w' m d iso (put O (rkI ord) x xs) F' ∧ ∀ y o, F' y o → F y o ∨ B ≤ y) .ret e w5 := by
    intro e w4 w5 F' X4 hM4 hF' x5 r5 e4 e5
    refine endQ_ct e4 e5 ld_38 (iX_at r5) ⟨rfl, X4.trans x5 (fun _ _ g => g) fun y o hy g => ?_, F', hM4.extG x5 (fun y o g k => ?_) (fun y o k => ?_), fun y o g => (hF' y o g).imp id fun g => by omega⟩
    · simp only [rng] at g; omega
    · simp only [rng] at k
      rcases hF' y o g with g | g
      · have := hFlt y o g; omega
      · omega
    · simp only [rng] at k; omega
  refine W_seq ?_
  refine W_sq fun K0 hK => (W_text [true, false] (by kernel_rfl) ?_); simp only [↓List.toList_toArray, ↓rgd, ↓rgf, ↓reduceIte, Nat.reduceEqDiff, rg, ow_86, e0]
  refine do_call fn_83 (by simp only [evt, evc, upd_eq, Nat.reduceEqDiff, ↓reduceIte, maT, maC, maN, isnN, isnS] <;> rfl) (lock_any _ _ w2) ?_
  rintro _ _ ⟨rfl, rfl⟩
  refine ⟨trivial, ?_⟩
  simp only [↓List.toList_toArray, ↓rgd, ↓rgf, ↓reduceIte, Nat.reduceEqDiff, rg, ow_86]
  refine hK _ _ ?_; clear hK K0
  refine W_false (by simp only [evt, evc, upd_eq, Nat.reduceEqDiff, ↓reduceIte, ntT, ntF] <;> rfl) (W_skip ?_)
  show W _ _ _ _ _ _
  refine W_seq ?_
  rcases hM2.root with ⟨rfl, hr⟩ | ⟨h, b, hr, ht⟩
  · refine W_sq fun K0 hK => (W_text [true, true, true, true, true] (by kernel_rfl) ?_); simp only [↓List.toList_toArray, ↓rgd, ↓rgf, ↓reduceIte, Nat.reduceEqDiff, rg, ow_86, e0, ptr_eq, hr]
    refine hK _ _ ?_; clear hK K0
    refine W_true (by simp only [evt, evc, upd_eq, Nat.reduceEqDiff, ↓reduceIte, ntT, ntF] <;> rfl) ?_
    have ix := iX_at rx
    refine W_sq fun K0 hK => (W_text [true, true, false, true, true, false, true] (by kernel_rfl) ?_); simp only [↓List.toList_toArray, ↓rgd, ↓rgf, ↓reduceIte, Nat.reduceEqDiff, rg, ow_86, e0, ptr_eq, ix]
    refine do_call fn_106 (by simp only [evt, evc, upd_eq, Nat.reduceEqDiff, ↓reduceIte, maT, maC, maN, isnN, isnS] <;> rfl) (set_tree A0 m d iso ord x hd hd' _ F w2 hM2 hbig) ?_
    rintro _ w3 ⟨rfl, x3, F', hM3, hF'⟩
    refine ⟨trivial, ?_⟩
    simp only [↓List.toList_toArray, ↓rgd, ↓rgf, ↓reduceIte, Nat.reduceEqDiff, rg, ow_86]
    refine do_store (v := itV ((at? O (rkI ord) (rkI ord x) []).getD zIt)) (by simp only [evt, evc, upd_eq, Nat.reduceEqDiff, ↓reduceIte, ntT, ntF] <;> rfl) (by simp only [evt, evc, upd_eq, Nat.reduceEqDiff, ↓reduceIte, ntT, ntF] <;> rfl) sz_38 (itV_len _) (x3.wok kq2) (by decide) (itV_oc _) fun w4 x4 r4 s4 => ⟨trivial, ?_⟩
    simp only [↓List.toList_toArray, ↓rgd, ↓rgf, ↓reduceIte, Nat.reduceEqDiff, rg, ow_86]
    refine hK _ _ ?_; clear hK K0
    refine W_ret ?_
    simp only [andThen_ret]
    exact fin _ w3 w4 F' ((X2.mono fun _ _ _ h => h.elim).tr x3) hM3 (fun y o g => (hF' y o g).imp id fun g => by omega) x4 r4 (by simp only [upd_eq, Nat.reduceEqDiff, ↓reduceIte] <;> rfl) (by simp only [upd_eq, Nat.reduceEqDiff, ↓reduceIte] <;> rfl)
  · refine W_sq fun K0 hK => (W_text [true, true, true, true, true] (by kernel_rfl) ?_); simp only [↓List.toList_toArray, ↓rgd, ↓rgf, ↓reduceIte, Nat.reduceEqDiff, rg, ow_86, e0, ptr_eq, hr]
    refine hK _ _ ?_; clear hK K0
    refine W_false (by simp only [evt, evc, upd_eq, Nat.reduceEqDiff, ↓reduceIte, ntT, ntF] <;> rfl) (W_skip ?_)
    show W _ _ _ _ _ _
    refine W_sq fun K0 hK => (W_text [true, true, true, true, false, true] (by kernel_rfl) ?_); simp only [↓List.toList_toArray, ↓rgd, ↓rgf, ↓reduceIte, Nat.reduceEqDiff, rg, ow_86, e0, ptr_eq]
    refine do_call fn_107 (by simp only [evt, evc, upd_eq, Nat.reduceEqDiff, ↓reduceIte, maT, maC, maN, isnN, isnS] <;> rfl) (isoLoad_any m m 2 b true iso w2 hM2.cfg.iso hr ht.iso0.1) ?_
    rintro _ w3 ⟨rfl, r3⟩
    refine ⟨trivial, ?_⟩
    simp only [↓List.toList_toArray, ↓rgd, ↓rgf, ↓reduceIte, Nat.reduceEqDiff, rg, ow_86]
    refine hK _ _ ?_; clear hK K0
    have X3 : Ext noF w w3 := X2.tr r3.ext
    have s3 : w3.heap.size = B + 2 := by obtain ⟨n, rfl⟩ := r3; exact s2'
    replace kq2 : wok w3 q 2 := (r3.ext (F := noF)).wok kq2
    replace rx : Row w3 B 0 (E.cel x) := r3.ext.row (F := noF) rx fun _ _ h => h
    replace hM := hM.ext X3
    replace hr : rd w3 m 2 = some (ptr b) := r3.ext.rd (F := noF) hr fun h => h
    replace ht := ht.ext (r3.ext (F := noF)) fun _ _ _ h => h
    clear hM2 X2 r3 s2 s1
    obtain ⟨root, hroot⟩ : ∃ root, root = b := ⟨_, rfl⟩
    rw [← hroot] at hr
    have mS : ∀ y o, F y o → y ≠ m := fun y o g h => hM.off o (h ▸ g)
    refine W_sqx fun K hK => ?_
    have hrest : ∀ (e' : Env) (w' : World) (D : Nat → Prop), Shift 1 w3 w' D → (∀ y, RS lastSel w3 h b y ↔ D y) → e' 0 = ptr m → e' 3 = ptr B → e' 4 = ptr q → K e' w' := by
      intro e w' D sh hD e0 e8 e4
      refine hK _ _ ?_; clear hK K
      have hr' := sh.ext.rd hr (fun g => by omega)
      refine W_sq fun K0 hK => (W_text [true, true, true, true, true] (by kernel_rfl) ?_); simp only [↓List.toList_toArray, ↓rgd, ↓rgf, ↓reduceIte, Nat.reduceEqDiff, rg, ow_86, e0, ptr_eq, hr']
      refine hK _ _ ?_; clear hK K0
      refine W_sqx fun K hK => ?_
      have hend : ∀ (e' : Env) (w' : World), Ext noF w3 w' → e' 0 = ptr m → e' 3 = ptr B → e' 4 = ptr q → K e' w' := by
        intro e w' X e0 e8 e4
        refine hK _ _ ?_; clear hK K
        have ix := iX_at (X.row rx fun _ _ h => h)
        refine W_sq fun K0 hK => (W_text [true, true, false, true, true, false, true] (by kernel_rfl) ?_); simp only [↓List.toList_toArray, ↓rgd, ↓rgf, ↓reduceIte, Nat.reduceEqDiff, rg, ow_86, e0, e8, ptr_eq, ix]
        refine do_call fn_106 (by simp only [evt, evc, upd_eq, Nat.reduceEqDiff, ↓reduceIte, maT, maC, maN, isnN, isnS] <;> rfl) (set_tree A0 m d iso ord x hd hd' xs F w' (hM.ext X) hbig) ?_
        rintro _ w4 ⟨rfl, x4, F', hM4, hF'⟩
        refine ⟨trivial, ?_⟩
        have sX := X.size
        simp only [↓List.toList_toArray, ↓rgd, ↓rgf, ↓reduceIte, Nat.reduceEqDiff, rg, ow_86]
        refine do_store (v := itV ((at? O (rkI ord) (rkI ord x) xs).getD zIt)) (by simp only [evt, upd_eq, Nat.reduceEqDiff, ↓reduceIte]; exact e4) (by simp only [evt, evc, upd_eq, Nat.reduceEqDiff, ↓reduceIte, ntT, ntF] <;> rfl) sz_38 (itV_len _) (x4.wok (X.wok kq2)) (by decide) (itV_oc _) fun w5 x5 r5 s5 => ⟨trivial, ?_⟩
        simp only [↓List.toList_toArray, ↓rgd, ↓rgf, ↓reduceIte, Nat.reduceEqDiff, rg, ow_86]
        refine hK _ _ ?_; clear hK K0
        refine W_ret ?_
        exact fin _ w4 w5 F' (((X3.tr X).mono fun _ _ _ h => h.elim).tr x4) hM4 (fun y o g => (hF' y o g).imp id fun g => by omega) x5 r5 (by simp only [upd_eq, Nat.reduceEqDiff, ↓reduceIte]; exact e4) (by simp only [upd_eq, Nat.reduceEqDiff, ↓reduceIte] <;> rfl)
      clear hK
      refine W_block (W_loop (fun mm e w' => ∃ (lo b : Nat) (ys : List It) (F : Nat → Nat → Prop) (D : Nat → Prop), Tr E iso (d - 1) (2 * d - 1) mm w3 lo b ys F ∧ Shift 1 w3 w' D ∧ (∀ y, RS lastSel w3 mm b y ↔ D y) ∧ ys.length ≤ xs.length ∧ e 0 = ptr m ∧ e 3 = ptr B ∧ e 4 = ptr q ∧ e 6 = ptr b)
        h ⟨1, b, xs, F, D, ht, sh, hD, Nat.le_refl _, ?_, ?_, ?_, ?_⟩ ?_)
      · simp only [upd_eq, Nat.reduceEqDiff, ↓reduceIte]; exact e0
      · simp only [upd_eq, Nat.reduceEqDiff, ↓reduceIte]; exact e8
      · simp only [upd_eq, Nat.reduceEqDiff, ↓reduceIte]; exact e4
      · simp only [upd_eq, Nat.reduceEqDiff, ↓reduceIte]; rw [hroot]; rfl
      clear sh hD e0 e8 e4 hr' D e w' ht
      rintro mm e w' ⟨lo, b, ys, F', D, ht, sh, hD, hle, e0, e8, e4, e6⟩
      obtain ⟨bi, oi, cap, ks, ch, ho, h1, h2, _, hin⟩ := ht.open
      have hDb : D b := (hD b).1 (by cases mm <;> simp [RS])
      obtain ⟨k, k1, k2⟩ := sh.cnt b hDb
      rw [ho.h1, Option.some.injEq, Value.int.injEq] at k1
      obtain ⟨-, rfl⟩ := k1
      have q1 : IntKind.i64.wrap ((ys.length : Int) + 1 - 1) = ys.length := by rw [IntWalk.i64_in _ (by omega)]; omega
      refine W_block ?_
      refine W_sq fun K0 hK => (W_text [true, true, true, true, true, true, true, false] (by kernel_rfl) ?_); simp only [↓List.toList_toArray, ↓rgd, ↓rgf, ↓reduceIte, Nat.reduceEqDiff, rg, ow_86, e6, ptr_eq, k2, q1]
      refine do_store (by simp only [evt, evc, upd_eq, Nat.reduceEqDiff, ↓reduceIte, ntT, ntF] <;> rfl) (by simp only [evt, evc, upd_eq, Nat.reduceEqDiff, ↓reduceIte, ntT, ntF] <;> rfl) sz_3 rfl (sh.ext.wok ho.wb) (by decide) (oc_one rfl rfl) fun w4 x4 r4 s4 => ⟨trivial, ?_⟩
      simp only [↓List.toList_toArray, ↓rgd, ↓rgf, ↓reduceIte, Nat.reduceEqDiff, rg, ow_86]
      refine hK _ _ ?_; clear hK K0
      have sh4 := sh.undo hDb ho.h1 x4 (Row.cons.1 r4).1
      have b3 := sh4.ext.rd ho.h3 (fun g => by omega)
      refine W_seq ?_
      rcases hin with ⟨rfl, rfl, rfl, hF⟩ | ⟨h', bc, ba, oa, capc, cs, rfl, rfl, n⟩
      · refine W_sq fun K0 hK => (W_text [true, false] (by kernel_rfl) ?_); simp only [↓List.toList_toArray, ↓rgd, ↓rgf, ↓reduceIte, Nat.reduceEqDiff, rg, ow_86, e6]
        refine do_call fn_108 (by simp only [evt, evc, upd_eq, Nat.reduceEqDiff, ↓reduceIte, maT, maC, maN, isnN, isnS] <;> rfl) (leaf_any b none w4 b3) ?_
        rintro _ w4 ⟨rfl, rfl⟩
        refine ⟨trivial, ?_⟩
        simp only [↓List.toList_toArray, ↓rgd, ↓rgf, ↓reduceIte, Nat.reduceEqDiff, rg, ow_86]
        refine hK _ _ ?_; clear hK K0
        refine W_true (by simp only [evt, evc, upd_eq, Nat.reduceEqDiff, ↓reduceIte, ntT, ntF] <;> rfl) (W_exit ?_)
        simp only [andThen_exit, inBlk_exit, andThen_normal, Nat.reduceEqDiff, ↓reduceIte]
        refine hend _ _ (sh4.ext.mono fun y o _ g => g.2.2 ((hD y).2 g.2.1)) ?_ ?_ ?_
        · simp only [upd_eq, Nat.reduceEqDiff, ↓reduceIte]; exact e0
        · simp only [upd_eq, Nat.reduceEqDiff, ↓reduceIte]; exact e8
        · simp only [upd_eq, Nat.reduceEqDiff, ↓reduceIte]; exact e4
      · refine W_sq fun K0 hK => (W_text [true, false] (by kernel_rfl) ?_); simp only [↓List.toList_toArray, ↓rgd, ↓rgf, ↓reduceIte, Nat.reduceEqDiff, rg, ow_86, e6]
        refine do_call fn_108 (by simp only [evt, evc, upd_eq, Nat.reduceEqDiff, ↓reduceIte, maT, maC, maN, isnN, isnS] <;> rfl) (leaf_any b (some ⟨bc, 0, none⟩) w4 b3) ?_
        rintro _ w4 ⟨rfl, rfl⟩
        refine ⟨trivial, ?_⟩
        simp only [↓List.toList_toArray, ↓rgd, ↓rgf, ↓reduceIte, Nat.reduceEqDiff, rg, ow_86]
        refine hK _ _ ?_; clear hK K0
        refine W_false (by simp only [evt, evc, upd_eq, Nat.reduceEqDiff, ↓reduceIte, ntT, ntF] <;> rfl) (W_skip ?_)
        show W _ _ _ _ _ _
        have hcl : lastSel cs.length < cs.length := lastSel_lt _ (by have := n.len; omega)
        obtain ⟨c, hc⟩ : ∃ c, cs[lastSel cs.length]? = some c := ⟨_, List.getElem?_eq_getElem hcl⟩
        have hcm : c ∈ cs := List.mem_of_getElem? hc
        have htc := n.sub c hcm
        have hcD : ∀ y, (D y ∧ y ≠ b) ↔ RS lastSel w3 h' c.b y := by
          intro y
          rw [← hD y, n.rs ho.h3 hc y]
          refine ⟨fun g => g.1.resolve_left g.2, fun g => ⟨.inr g, fun hb => ?_⟩⟩
          rw [hb] at g
          exact n.ap.own c hcm b 0 (RS.sub lastSel_lt htc b g 0) (.inl rfl)
        have k4 := n.kids.ext sh4.ext fun y o g hh => n.ap.kid c hcm y o (RS.sub lastSel_lt htc y ((hcD y).1 hh.2) o) g
        have hc0 := k4.c0
        rw [List.length_map] at hc0
        have hcr : rd w4 ba (oa + (cs.length - 1)) = some (ptr c.b) := ptr_at k4.row (by rw [List.getElem?_map]; exact congrArg _ hc)
        have q2 := wsub1 cs.length (by omega) (by have := n.len; omega)
        have hlc : cs.length - 1 < cs.length := hcl
        refine W_rg fun K0 hK => (W_draw (some none) none [(0, 0, 0), (0, 1, 0), (0, 2, 0), (0, 3, 0), (0, 4, 0), (0, 5, 0), (0, 6, 0), (0, 7, 0), (0, 8, 0), (0, 9, 0), (0, 10, 0), (0, 11, 0), (0, 12, 0), (0, 13, 0), (0, 14, 0), (0, 15, 0), (0, 16, 0)] mixed (by kernel_rfl) ?_); simp only [↓List.toList_toArray, ↓rgd, ↓rgf, ↓reduceIte, Nat.reduceEqDiff, rg, ow_86, e6, ptr_eq, b3, hc0, q2, hlc, hcr]
        refine hK _ _ ?_; clear hK K0
        have hlen : c.xs.length ≤ ys.length := by rw [n.eq]; exact weave_mem_length _ _ (by simpa using n.len) _ (List.mem_map_of_mem hcm)
        refine ⟨h', by omega, d - 1, c.b, c.xs, c.F, _, htc, sh4.ro (RO.dr _ _), fun y => (hcD y).symm, by omega, ?_, ?_, ?_, ?_⟩
        · simp only [upd_eq, Nat.reduceEqDiff, ↓reduceIte]; exact e0
        · simp only [upd_eq, Nat.reduceEqDiff, ↓reduceIte]; exact e8
        · simp only [upd_eq, Nat.reduceEqDiff, ↓reduceIte]; exact e4
        · simp only [upd_eq, Nat.reduceEqDiff, ↓reduceIte]; rfl
    clear hK
    refine W_block (W_loop (fun mm e w' => ∃ (lo b' : Nat) (ys : List It) (Fb : Nat → Nat → Prop) (A : List It) (D : Nat → Prop), Tr E iso (d - 1) (2 * d - 1) mm w3 lo b' ys Fb ∧ 1 ≤ lo ∧ Shift 1 w3 w' D ∧ (∀ y, RS lastSel w3 h b y ↔ D y ∨ RS lastSel w3 mm b' y) ∧ (∀ y, D y → ∀ o, ¬ Fb y o) ∧ (∀ y, D y → ∀ o, F y o) ∧ xs = A ++ ys ∧
        Hole E iso (d - 1) (2 * d - 1) h 1 b F w3.heap.size w' mm lo b' ys Fb A [] 1 ∧ (∀ y o, Fb y o → F y o) ∧ e 0 = ptr m ∧ e 3 = ptr B ∧ e 4 = ptr q ∧ e 6 = ptr b')
        h ⟨1, b, xs, F, [], fun _ => False, ht, Nat.le_refl _, Shift.nil _ _, fun y => by simp, fun _ h => h.elim, fun _ h => h.elim, rfl, Hole.root (Nat.le_refl _), fun _ _ g => g, ?_, ?_, ?_, ?_⟩ ?_)
    · simp only [upd_eq, Nat.reduceEqDiff, ↓reduceIte]; exact e0
    · simp only [upd_eq, Nat.reduceEqDiff, ↓reduceIte]; rfl
    · simp only [upd_eq, Nat.reduceEqDiff, ↓reduceIte]; rfl
    · simp only [upd_eq, Nat.reduceEqDiff, ↓reduceIte]
    clear e0 e1 e
    rintro mm e w' ⟨lo, b', ys, Fb, A, D, htb, hlo, sh, hD, hDF, hDD, hxs, hole, hsub, e0, e8, e4, e6⟩
    obtain ⟨bi, oi, cap, ks, ch, ho, h1, h2, hoF, hin⟩ := htb.open
    have hyx : ys.length ≤ xs.length := by rw [hxs]; simp
    have hDb : ¬ D b' := fun g => hDF b' g 0 (htb.self 0)
    have q1 := wadd1 ys.length (by omega)
    have c1 := sh.ext.rd ho.h1 (fun g => hDb g.2)
    refine W_block ?_
    refine W_sq fun K0 hK => (W_text [true, true, true, true, true, true, true, false] (by kernel_rfl) ?_); simp only [↓List.toList_toArray, ↓rgd, ↓rgf, ↓reduceIte, Nat.reduceEqDiff, rg, ow_86, e6, ptr_eq, c1, q1]
    refine do_store (by simp only [evt, evc, upd_eq, Nat.reduceEqDiff, ↓reduceIte, ntT, ntF] <;> rfl) (by simp only [evt, evc, upd_eq, Nat.reduceEqDiff, ↓reduceIte, ntT, ntF] <;> rfl) sz_3 rfl (sh.ext.wok ho.wb) (by decide) (oc_one rfl rfl) fun w4 x4 r4 s4 => ⟨trivial, ?_⟩
    simp only [↓List.toList_toArray, ↓rgd, ↓rgf, ↓reduceIte, Nat.reduceEqDiff, rg, ow_86]
    refine hK _ _ ?_; clear hK K0
    have b1 : rd w4 b' 1 = some (.int .i64 (ys.length + 1 : Int)) := (Row.cons.1 r4).1
    have sh4 := sh.add hDb ho.h1 x4 b1
    have hFF : ∀ y o, (o = 1 ∧ (D y ∨ y = b')) → ∀ p, F y p := fun y o g p => g.2.elim (fun g => hDD y g p) fun g => by rw [g]; exact hsub _ _ (htb.self p)
    have hM4 : Cfg w4 m iso d := hM.cfg.ext sh4.ext fun o _ _ g => hM.off 0 (hFF _ _ g 0)
    have b3 := sh4.ext.rd ho.h3 (fun g => by omega)
    have b2 := sh4.ext.rd ho.h2 (fun g => by omega)
    refine W_seq ?_
    rcases hin with ⟨rfl, rfl, rfl, hF⟩ | ⟨h', bc, ba, oa, capc, cs, rfl, rfl, n⟩
    · refine W_sq fun K0 hK => (W_text [true, false] (by kernel_rfl) ?_); simp only [↓List.toList_toArray, ↓rgd, ↓rgf, ↓reduceIte, Nat.reduceEqDiff, rg, ow_86, e6]
      refine do_call fn_108 (by simp only [evt, evc, upd_eq, Nat.reduceEqDiff, ↓reduceIte, maT, maC, maN, isnN, isnS] <;> rfl) (leaf_any b' none w4 b3) ?_
      rintro _ w4 ⟨rfl, rfl⟩
      refine ⟨trivial, ?_⟩
      simp only [↓List.toList_toArray, ↓rgd, ↓rgf, ↓reduceIte, Nat.reduceEqDiff, rg, ow_86]
      refine hK _ _ ?_; clear hK K0
      refine W_true (by simp only [evt, evc, upd_eq, Nat.reduceEqDiff, ↓reduceIte, ntT, ntF] <;> rfl) ?_
      refine W_sqx fun K hK => ?_
      have hdown : ∀ (e' : Env) (w' : World), Ext noF w4 w' → e' 0 = ptr m → e' 3 = ptr B → e' 4 = ptr q → K e' w' := by
        intro e' w5 r5 f0 f8 f4
        refine hK _ _ ?_; clear hK K
        refine W_exit ?_
        simp only [andThen_exit, inBlk_exit, andThen_normal, Nat.reduceEqDiff, ↓reduceIte]
        refine hrest _ _ _ (sh4.e0 r5) (fun y => ?_) f0 f8 f4
        rw [hD y]; rfl
      have hmx := hM4.mx
      have o4 := ho.row
      have row4 : Row w4 bi oi (flat E ys) := sh4.ext.row ho.row fun j hj g => by
        rw [flat_length] at hj
        have hc := Nat.mul_le_mul_right E.sz ho.le
        rcases g.2 with g | g
        · exact hDF _ g (oi + j) (hoF _ _ (.inr ⟨rfl, by omega, by omega⟩))
        · exact ho.ne g
      by_cases hfull : ys.length < 2 * d - 1
      · have t1 : decide ((ys.length : Int) < ((2 * d - 1 : Nat) : Int)) = true := by simp; omega
        refine W_sq fun K0 hK => (W_draw (some none) none [(0, 0, 0), (0, 1, 0), (0, 2, 0), (0, 3, 0), (0, 4, 0), (0, 5, 0), (0, 6, 0), (0, 7, 0), (0, 8, 0), (0, 9, 0)] mixed (by kernel_rfl) ?_); simp only [↓List.toList_toArray, ↓rgd, ↓rgf, ↓reduceIte, Nat.reduceEqDiff, rg, ow_86, e0, e6, ptr_eq, b2, hmx, t1]
        refine hK _ _ ?_; clear hK K0
        refine W_true (by simp only [evt, evc, upd_eq, Nat.reduceEqDiff, ↓reduceIte, ntT, ntF] <;> rfl) ?_
        obtain ⟨y, hy⟩ : ∃ y, ys[ys.length - 1]? = some y := ⟨_, List.getElem?_eq_getElem (by omega)⟩
        have hyl : ys.length - 1 < ys.length := by omega
        have q2 := wsub1 ys.length (by omega) (by omega)
        have hyk := it_at row4 hy
        have rx4 : Row w4 B 0 (E.cel x) := sh4.ext.row rx fun j _ g => by have := hFlt _ _ (hFF _ _ g 0); omega
        have ix4 := iX_at rx4
        have hL4 := hM.less.ext sh4.ext (fun y o g => .inl (by have := hM.above _ _ (hFF y o g 0); omega)) (fun g => hM.off 0 (hFF _ _ g 0))
        refine W_sq fun K0 hK => (W_free (some none) (.take 0 (.take 1 (.take 2 (.take 3 (.take 4 (.take 5 (.take 6 (.take 7 (.take 8 (.take 9 (.take 10 (.take 11 (.take 12 (.take 13 (.bar 14 .nil))))))))))))))) mixed (by kernel_rfl) ?_); simp only [↓List.toList_toArray, ↓rgd, ↓rgf, ↓reduceIte, Nat.reduceEqDiff, rg, ow_86, e0, e8, e6, ptr_eq, b2, q2, hyl, hyk, ix4]
        refine do_call fn_109 (by simp only [evt, evc, upd_eq, Nat.reduceEqDiff, ↓reduceIte, maT, maC, maN, isnN, isnS] <;> rfl) (less_any A0 m ord y x _ (hL4.ext0 (Ext.dr noF _ _))) ?_
        rintro _ w5 ⟨rfl, x5'⟩
        refine ⟨trivial, ?_⟩
        simp only [↓List.toList_toArray, ↓rgd, ↓rgf, ↓reduceIte, Nat.reduceEqDiff, rg, ow_86]
        refine hK _ _ ?_; clear hK K0
        have x45 : Ext noF w4 w5 := (Ext.dr _ _ _).tr x5'.od
        have s45 := x45.size
        have sh5 := sh4.e0 x45
        cases t2 : O.lt (rkI ord y) (rkI ord x) with
        | true =>
          refine W_true (by simp only [evt, upd_eq, ↓reduceIte, ntT, ntF]) ?_
          have M1 : readsB (some (some [b', B])) b' = true := by simp [readsB]
          have M2 : readsB (some (some [b', B])) B = true := by simp [readsB]
          have ix := iX_at (x45.row rx4 fun _ _ h => h)
          have b2 := x45.rd b2 fun h => h
          have b1 := x45.rd b1 fun h => h
          have row4 := x45.row row4 fun _ _ h => h
          refine W_sq fun K0 hK => (W_draw (some (some [b', B])) (some 10) [(0, 0, 0), (0, 1, 0), (0, 2, 0), (0, 3, 0), (0, 4, 0), (0, 5, 0), (1, 6, 0), (1, 7, 0), (0, 8, 0), (0, 9, 0), (1, 10, 0)] mixed (by kernel_rfl) ?_); simp only [↓List.toList_toArray, ↓rgd, ↓rgf, ↓reduceIte, Nat.reduceEqDiff, rg, ow_86, e8, e6, ptr_eq, b2, ix, M1, M2]
          have s4' : w4.heap.size = w'.heap.size := s4
          have hbw := x45.wok (x4.wok (sh.ext.wok ho.wb))
          have hbl := wok_lt hbw
          have hwi : wok w5 bi (oi + cap * 2) := sh5.ext.wok ho.wi
          have hbil := wok_lt hwi
          have hBl : B < w5.heap.size := by have := sh4.ext.size; omega
          have hBb : B ≠ b' := fun g => by have := hFlt _ _ (hsub _ _ (g ▸ htb.self 0)); omega
          have hBbi : B ≠ bi := fun g => by have := hFlt _ _ (hsub _ _ (hoF bi oi (.inr ⟨rfl, by omega, by rw [E_sz]; have := ho.le; omega⟩))); omega
          have hmb : m ≠ b' := fun g => hM.off 0 (hsub _ _ (g ▸ htb.self 0))
          have hcap := ho.le
          have hne := ho.ne
          refine do_bsl rfl (bs_it1 x) fun w6 n6 => ⟨.inr (keep2 n6.ext ⟨by simp only [sz_dr]; omega, fun _ h => h⟩ ⟨by simp only [sz_dr]; omega, fun _ h => h⟩), ?_⟩
          simp only [↓List.toList_toArray, ↓rgd, ↓rgf, ↓reduceIte, Nat.reduceEqDiff, rg, ow_86]
          have n6 := n6.od
          have s6 := n6.size
          have hsl : SlV w6 2 (.slice (some ⟨bi, oi, none⟩) ys.length cap) ys.length (flat E ys) := ⟨by rw [flat_length]; rfl, .inr ⟨bi, oi, cap, rfl, hcap, n6.ext.row row4 fun _ _ h => h, (n6.ext.wok hwi).R (Nat.le_refl _)⟩⟩
          have hz : SlV w6 2 (.slice (some ⟨w5.heap.size, 0, none⟩) 1 1) 1 (E.cel x) := ⟨rfl, .inr ⟨_, 0, 1, rfl, Nat.le_refl _, n6.row, n6.wok.R (Nat.le_refl _)⟩⟩
          refine do_append (by simp only [evt, evc, upd_eq, Nat.reduceEqDiff, ↓reduceIte, ntT, ntF] <;> rfl) (by simp only [evt, evc, upd_eq, Nat.reduceEqDiff, ↓reduceIte, ntT, ntF] <;> rfl) el_it rfl ni_25 hsl hz (by omega) (by decide) (E.one x) fun v7 w7 a7 => ?_
          obtain ⟨b2', o', cap', rfl, hcap', row7, wok7, x7, hcase⟩ := app_out a7 (n6.ext.wok hwi)
          refine ⟨.inr (keep2 x7 ⟨by omega, fun o h => by simp only [rng] at h; omega⟩ ⟨by omega, fun o h => by simp only [rng] at h; omega⟩), ?_⟩
          simp only [↓List.toList_toArray, ↓rgd, ↓rgf, ↓reduceIte, Nat.reduceEqDiff, rg, ow_86, ptr_eq]
          have s7 := x7.size
          have wb7 := x7.wok (n6.ext.wok hbw)
          refine do_store (by simp only [evt, evc, upd_eq, Nat.reduceEqDiff, ↓reduceIte, ntT, ntF] <;> rfl) (by simp only [evt, evc, upd_eq, Nat.reduceEqDiff, ↓reduceIte, ntT, ntF] <;> rfl) sz_25 rfl wb7 (by decide) (oc_one rfl rfl) fun w8 x8 r8 s8 => ⟨.inl trivial, ?_⟩
          simp only [↓List.toList_toArray, ↓rgd, ↓rgf, ↓reduceIte, Nat.reduceEqDiff, rg, ow_86]
          refine hK _ _ ?_; clear hK K0
          have hb2b : b2' ≠ b' := by omega
          have Y : Ext (fun y o => (rng bi (oi + ys.length * 2) 2 y o ∧ ys.length + 1 ≤ cap) ∨ (y = b' ∧ (o = 1 ∨ o = 2))) w' w8 := by
            refine ((x4.trans (x45.tr n6.ext) (fun y o g => ?_) fun _ _ _ g => g.elim).trans x7 (fun _ _ g => g) fun y o _ g => ?_).trans x8 (fun _ _ g => g) fun y o _ g => ?_
            · simp only [rng] at g; exact .inr ⟨g.1, by omega⟩
            · exact .inl g
            · simp only [rng] at g; exact .inr ⟨g.1, by omega⟩
          have XF : Ext Fb w' w8 := Y.mono fun y o _ g => (hF y o).2 (by
            rcases g with g | g
            · simp only [rng] at g
              exact .inr ⟨g.1.1, by omega, by rw [E_sz]; omega⟩
            · exact .inl g.1)
          have htr : Tr E iso (d - 1) (2 * d - 1) 0 w8 lo b' (ys ++ [x]) (ownF E b' b2' o' cap') := by
            have g0 : rd w' b' 0 = some (.int .u64 iso) := sh.ext.rd ho.h0 (fun g => hDb g.2)
            have g3 : rd w' b' 3 = some (.pointer none) := sh.ext.rd ho.h3 (fun g => hDb g.2)
            refine ⟨b2', o', cap', ⟨?_, ?_, ?_, ?_, x8.wok wb7, ?_, x8.wok wok7, ?_, hb2b⟩, ?_, ?_, fun _ _ => Iff.rfl⟩
            · exact Y.rd g0 (by simp only [rng]; omega)
            · rw [List.length_append, List.length_singleton]
              exact x8.rd (x7.rd (n6.ext.rd b1 fun h => h) (by simp only [rng]; omega)) (by simp only [rng]; omega)
            · rw [List.length_append, List.length_singleton]
              exact (Row.cons.1 r8).1
            · exact Y.rd g3 (by simp only [rng]; omega)
            · rw [flat_append, flat_one]
              exact x8.row row7 fun j _ h => by simp only [rng] at h; omega
            · rw [List.length_append, List.length_singleton]; exact hcap'
            · rw [List.length_append, List.length_singleton]; omega
            · rw [List.length_append, List.length_singleton]; omega
          obtain ⟨F2, hT2, hF2⟩ := hole w8 (ys ++ [x]) (ownF E b' b2' o' cap') XF htr (fun y o g => by
            rcases g with g | g
            · exact .inl ((hF _ _).2 (.inl g))
            · rcases hcase with ⟨rfl, rfl, rfl⟩ | hc
              · exact .inl ((hF _ _).2 (.inr g))
              · exact .inr (by simp only [rng] at g; omega)) (by rw [List.length_append]; simp)
          rw [List.append_nil, ← List.append_assoc, ← hxs] at hT2
          have XW : Ext F w3 w8 := (sh.ext.mono fun y o _ g => hDD y g.2 o).tr (XF.mono fun y o _ g => hsub y o g)
          have ct8 := XW.rd hM.cnt (hM.off 3)
          have q3 := wadd1 xs.length (by omega)
          have cf8 := hM.cfg.ext XW fun o _ _ => hM.off o
          refine W_sq fun K0 hK => (W_text [true, true, true, true, true, true, true, false] (by kernel_rfl) ?_); simp only [↓List.toList_toArray, ↓rgd, ↓rgf, ↓reduceIte, Nat.reduceEqDiff, rg, ow_86, e0, ptr_eq, ct8, q3]
          refine do_store (by simp only [evt, evc, upd_eq, Nat.reduceEqDiff, ↓reduceIte, ntT, ntF] <;> rfl) (by simp only [evt, evc, upd_eq, Nat.reduceEqDiff, ↓reduceIte, ntT, ntF] <;> rfl) sz_3 rfl cf8.wok (by decide) (oc_one rfl rfl) fun w9 x9 r9 s9 => ⟨trivial, ?_⟩
          simp only [↓List.toList_toArray, ↓rgd, ↓rgf, ↓reduceIte, Nat.reduceEqDiff, rg, ow_86]
          refine hK _ _ ?_; clear hK K0
          have cf9 := cf8.ext x9 fun o h2 h3 g => by simp only [rng] at g; omega
          have zv9 := zIt_at cf9
          obtain ⟨p1, p2, p3⟩ := put_last O (rkI ord) (all_lt O (rkI ord) hM.asc hxs hy t2)
          have hF2m : ∀ o, ¬ F2 m o := fun o g => by
            rcases hF2 m o g with g | g
            · exact hM.off o g
            · omega
          have hmF : ∀ y o, F2 y o → m < y := fun y o g => by
            rcases hF2 y o g with g | g
            · exact hM.above y o g
            · omega
          have X39 : Ext (mapF m F) w3 w9 := (XW.mono fun y o _ g => .inl g).tr (x9.mono fun y o _ g => by simp only [rng] at g; exact .inr ⟨g.1, by omega⟩)
          have hM9 : TreeAt A0 ord w9 m d iso (put O (rkI ord) x xs) F2 := by
            refine ⟨cf9, hM.less.ext X39 (fun y o g => ?_) (fun g => ?_), ?_, put_asc O (rkI ord) hM.asc, .inr ⟨h, b, ?_, ?_⟩, hF2m, ?_, hmF⟩
            · rcases g with g | g
              · exact .inl (Nat.le_of_lt (hM.above y o g))
              · exact .inl (by omega)
            · rcases g with g | g
              · exact hM.off _ g
              · omega
            · rw [p1, List.length_append, List.length_singleton]; exact (Row.cons.1 r9).1
            · rw [hroot] at hr
              exact x9.rd (XW.rd hr (hM.off 2)) (by simp only [rng]; omega)
            · rw [p1]
              exact hT2.ext x9 fun y o g k => by simp only [rng] at k; rw [k.1] at g; exact hF2m _ g
            · intro y o g; rw [s9]; exact hT2.lt y o g
          refine W_sq fun K0 hK => (W_text [true, true, true, true, false, true] (by kernel_rfl) ?_); simp only [↓List.toList_toArray, ↓rgd, ↓rgf, ↓reduceIte, Nat.reduceEqDiff, rg, ow_86, e0, ptr_eq, zv9]
          refine do_store (v := itV zIt) (by simp only [evt, upd_eq, Nat.reduceEqDiff, ↓reduceIte]; exact e4) (by simp only [evt, evc, upd_eq, Nat.reduceEqDiff, ↓reduceIte, ntT, ntF] <;> rfl) sz_38 (itV_len _) (X39.wok kq2) (by decide) (itV_oc _) fun w10 x10 r10 s10 => ⟨trivial, ?_⟩
          simp only [↓List.toList_toArray, ↓rgd, ↓rgf, ↓reduceIte, Nat.reduceEqDiff, rg, ow_86]
          refine hK _ _ ?_; clear hK K0
          refine W_ret ?_
          simp only [andThen_ret, inBlk_ret]
          exact fin _ w9 w10 F2 ((X3.mono fun _ _ _ h => h.elim).tr X39) hM9 (fun y o g => (hF2 y o g).imp id fun g => by omega) x10 (by rw [p3]; exact r10) (by simp only [upd_eq, Nat.reduceEqDiff, ↓reduceIte]; exact e4) (by simp only [upd_eq, Nat.reduceEqDiff, ↓reduceIte]; rw [p2])
        | false =>
          refine W_false (by simp only [evt, upd_eq, ↓reduceIte, ntT, ntF]) (W_skip ?_)
          simp only [andThen_normal]
          refine hdown _ _ x45 ?_ ?_ ?_
          · simp only [upd_eq, Nat.reduceEqDiff, ↓reduceIte]; exact e0
          · simp only [upd_eq, Nat.reduceEqDiff, ↓reduceIte]; exact e8
          · simp only [upd_eq, Nat.reduceEqDiff, ↓reduceIte]; exact e4
      · have t1 : decide ((ys.length : Int) < ((2 * d - 1 : Nat) : Int)) = false := by simp; omega
        refine W_sq fun K0 hK => (W_draw (some none) none [(0, 0, 0), (0, 1, 0), (0, 2, 0), (0, 3, 0), (0, 4, 0), (0, 5, 0), (0, 6, 0), (0, 7, 0), (0, 8, 0), (0, 9, 0)] mixed (by kernel_rfl) ?_); simp only [↓List.toList_toArray, ↓rgd, ↓rgf, ↓reduceIte, Nat.reduceEqDiff, rg, ow_86, e0, e6, ptr_eq, b2, hmx, t1]
        refine hK _ _ ?_; clear hK K0
        refine W_false (by simp only [evt, evc, upd_eq, Nat.reduceEqDiff, ↓reduceIte, ntT, ntF] <;> rfl) (W_skip ?_)
        simp only [andThen_normal]
        refine hdown _ _ (Ext.dr _ _ _) ?_ ?_ ?_
        · simp only [upd_eq, Nat.reduceEqDiff, ↓reduceIte]; exact e0
        · simp only [upd_eq, Nat.reduceEqDiff, ↓reduceIte]; exact e8
        · simp only [upd_eq, Nat.reduceEqDiff, ↓reduceIte]; exact e4
    · have hcl : lastSel cs.length < cs.length := lastSel_lt _ (by have := n.len; omega)
      obtain ⟨c, hc⟩ : ∃ c, cs[lastSel cs.length]? = some c := ⟨_, List.getElem?_eq_getElem hcl⟩
      have hcm : c ∈ cs := List.mem_of_getElem? hc
      have htc := n.sub c hcm
      have hcF : ∀ y o, c.F y o → Fb y o := fun y o g => (n.fp y o).2 (.inr (.inr ⟨c, hcm, g⟩))
      refine W_sq fun K0 hK => (W_text [true, false] (by kernel_rfl) ?_); simp only [↓List.toList_toArray, ↓rgd, ↓rgf, ↓reduceIte, Nat.reduceEqDiff, rg, ow_86, e6]
      refine do_call fn_108 (by simp only [evt, evc, upd_eq, Nat.reduceEqDiff, ↓reduceIte, maT, maC, maN, isnN, isnS] <;> rfl) (leaf_any b' (some ⟨bc, 0, none⟩) w4 b3) ?_
      rintro _ w4 ⟨rfl, rfl⟩
      refine ⟨trivial, ?_⟩
      simp only [↓List.toList_toArray, ↓rgd, ↓rgf, ↓reduceIte, Nat.reduceEqDiff, rg, ow_86]
      refine hK _ _ ?_; clear hK K0
      refine W_false (by simp only [evt, evc, upd_eq, Nat.reduceEqDiff, ↓reduceIte, ntT, ntF] <;> rfl) (W_skip ?_)
      show W _ _ _ _ _ _
      have n4 := n.ext sh4.ext (fun y o g hh => by
        rcases hh.2 with hh | hh
        · exact hDF y hh o ((n.fp y o).2 (.inr (.inl g)))
        · subst hh
          rcases g with g | g
          · exact n.ap.cb g.symm
          · exact n.ap.ab g.1.symm) fun d' hd y o g hh => by
        rcases hh.2 with hh | hh
        · exact hDF y hh o ((n.fp y o).2 (.inr (.inr ⟨d', hd, g⟩)))
        · exact n.ap.own d' hd y o g (.inl hh)
      have hc0 := n4.kids.c0
      rw [List.length_map] at hc0
      have hcr : rd w4 ba (oa + (cs.length - 1)) = some (ptr c.b) := ptr_at n4.kids.row (by rw [List.getElem?_map]; exact congrArg _ hc)
      have q2 := wsub1 cs.length (by omega) (by have := n.len; omega)
      have hlc : cs.length - 1 < cs.length := hcl
      refine W_rg fun K0 hK => (W_free (some none) (.take 0 (.take 1 (.take 2 (.take 3 (.take 4 (.take 5 (.take 6 (.take 7 (.take 8 (.take 9 (.take 10 (.take 11 (.take 12 (.take 13 (.take 14 (.take 15 (.bar 16 (.take 17 .nil)))))))))))))))))) mixed (by kernel_rfl) ?_); simp only [↓List.toList_toArray, ↓rgd, ↓rgf, ↓reduceIte, Nat.reduceEqDiff, rg, ow_86, e0, e6, ptr_eq, b3, hc0, q2, hlc]
      refine do_call fn_107 (by simp only [evt, evc, upd_eq, Nat.reduceEqDiff, ↓reduceIte, maT, maC, maN, isnN, isnS] <;> rfl) (isoLoad_any m ba (oa + (cs.length - 1)) c.b true iso _ hM4.iso hcr (n4.sub c hcm).iso0.1) ?_
      rintro _ w5 ⟨rfl, r5⟩
      refine ⟨trivial, ?_⟩
      simp only [↓List.toList_toArray, ↓rgd, ↓rgf, ↓reduceIte, Nat.reduceEqDiff, rg, ow_86]
      refine hK _ _ ?_; clear hK K0
      have R5 : RO w4 w5 := (RO.dr _ _).tr r5
      obtain ⟨A', C', hw⟩ := weave_at (lastSel cs.length) (cs.map Kid.xs) ks (by simpa using n.len) (by have := n.len; simp only [lastSel]; omega)
      have hC' : C' = [] := by
        rcases hw.right with ⟨hC, _⟩ | ⟨k, _, hk, _⟩
        · exact hC
        · have := (List.getElem?_eq_some_iff.1 hk).1; have := n.len; simp only [lastSel] at *; omega
      subst hC'
      have hxe : ys = A' ++ c.xs := by rw [n.eq, hw.eq (c := c.xs) (by rw [List.getElem?_map, hc]; rfl), List.append_nil]
      have n' := n.ext sh.ext (fun y o g hh => hDF y hh.2 o ((n.fp y o).2 (.inr (.inl g)))) fun d' hd y o g hh => hDF y hh.2 o ((n.fp y o).2 (.inr (.inr ⟨d', hd, g⟩)))
      have ho' := ho.ext sh.ext fun y o g hh => hDF y hh.2 o (hoF y o g)
      have hole4 := (hole.down n' ho' h1 h2 x4 b1 hc hw).ro R5
      refine ⟨h', by omega, d - 1, c.b, c.xs, c.F, A ++ A', _, htc, by omega, sh4.ro R5, fun y => ?_, fun y g o hh => ?_, fun y g => ?_, by rw [hxs, hxe, List.append_assoc], hole4, fun y o g => hsub y o (hcF y o g), ?_, ?_, ?_, ?_⟩
      · rw [hD y, n.rs ho.h3 hc y, or_assoc]
      · rcases g with g | g
        · exact hDF y g o (hcF y o hh)
        · exact n.ap.own c hcm y o hh (.inl g)
      · exact hFF y 1 ⟨rfl, g⟩
      · simp only [upd_eq, Nat.reduceEqDiff, ↓reduceIte]; exact e0
      · simp only [upd_eq, Nat.reduceEqDiff, ↓reduceIte]; exact e8
      · simp only [upd_eq, Nat.reduceEqDiff, ↓reduceIte]; exact e4
      · simp only [upd_eq, Nat.reduceEqDiff, ↓reduceIte]
end Go.Proofs.Ytdffddiaoheklaa
/-
  The law on Load. No condition.
-/
set_option linter.unusedSimpArgs false
set_option linter.unusedVariables false
namespace Go.Proofs.Ytdffddiaoheklaa
open Go Go.Proofs
set_option maxHeartbeats 1600000 in
set_option maxRecDepth 8000 in
theorem impl_gload (d : Nat) (hd : DOk d) (ord : List Int) (sv : Value) (nl : Bool) (ks : List It) (kv : Value) (w : World) (hs : SlInt w sv ord) (hsb : ord.length ≤ 2147483647) (hks : SlI w kv ks) (hkb : ks.length ≤ 2147483647) :
    CallK Try.prog 61 #[mkV sv d nl, kv] w fun v w' => ∃ v1 v2, v = .tuple #[v1, v2] ∧ SlV w' 3 v1 (reps ord ks).length (flat Ef (reps ord ks)) ∧ SlI w' v2 (treeG ord ks) ∧ Ext noF w w' := by
  refine calls_of_W [.tmp 4, .tmp 5] Try.func61 rfl Try.ntmps61 Try.results61 (by simp) fun e he => ?_
  have e0 : e 0 = mkV sv d nl := he 0 _ rfl
  have e1 : e 1 = kv := he 1 _ rfl
  clear he
  obtain ⟨ka, kc, hkv⟩ := hks.shape
  rw [hkv] at e1
  obtain ⟨hd2, hd3⟩ := hd.of
  refine W_sq fun K hK => (W_text [false, true, true] (by kernel_rfl) ?_); simp only [↓List.toList_toArray, ↓rgd, ↓rgf, ↓reduceIte, Nat.reduceEqDiff, rg, ow_61]
  refine do_box (by simp only [evt]; exact e0) fun w1 n1 => ⟨trivial, ?_⟩
  simp only [↓List.toList_toArray, ↓rgd, ↓rgf, ↓reduceIte, Nat.reduceEqDiff, rg, ow_61]
  refine hK _ _ ?_; clear hK K
  have rm := mk_at (show Row w1 w.heap.size 0 (mkL sv d nl) from n1.row)
  refine W_sq fun K hK => (W_text [true, false, true] (by kernel_rfl) ?_); simp only [↓List.toList_toArray, ↓rgd, ↓rgf, ↓reduceIte, Nat.reduceEqDiff, rg, ow_61, rm]
  refine do_call fn_54 (by simp only [evt, evc, upd_eq, Nat.reduceEqDiff, ↓reduceIte, maT, maC, maN, isnN, isnS] <;> rfl) (growG_any d hd ord sv nl [] (.slice none 0 0) w1 (SlV.ext0 hs n1.ext) hsb ⟨rfl, .inl ⟨rfl, rfl⟩⟩ (by simp)) ?_
  rintro _ w0 ⟨X2, A, m, F, rfl, hM0, hm, hFs⟩
  have X02 := n1.ext.tr X2
  have s1 := n1.size
  have s02 := X02.size
  refine ⟨trivial, ?_⟩
  simp only [↓List.toList_toArray, ↓rgd, ↓rgf, ↓reduceIte, Nat.reduceEqDiff, rg, ow_61]
  refine hK _ _ ?_; clear hK K
  refine W_sq fun K hK => (W_text [true] (by kernel_rfl) ?_); simp only [↓List.toList_toArray, ↓rgd, ↓rgf, ↓reduceIte, Nat.reduceEqDiff, rg, ow_61]
  refine hK _ _ ?_; clear hK K
  have hk0 : SlI w0 kv ks := SlV.ext0 hks X02
  have hml := hM0.mlt
  obtain ⟨B, hB⟩ : ∃ B, B = m + 1 := ⟨_, rfl⟩
  have hfill : Fill B A m (degOf d) ord none (.slice none 0 0) (treeG ord (ks.take 0)) (reps ord (ks.take 0)) w0 := Fill.start hM0 (fun y o g => by have := hM0.above y o g; omega) (HOk.none _) ⟨by omega, by omega, fun _ h => by cases h⟩
  have hkl : ∀ b o n c, kv = .slice (some ⟨b, o, none⟩) n c → b < w.heap.size := fun b o n c h => SlV.lt hks h
  clear hM0 X2 n1

  refine W_seq (W_seq ?_)
  refine W_rg fun K hK => (W_text [true, true, true] (by kernel_rfl) ?_); simp only [↓List.toList_toArray, ↓rgd, ↓rgf, ↓reduceIte, Nat.reduceEqDiff, rg, ow_61, e1]
  refine hK _ _ ?_; clear hK K
  show W _ _ _ _ _ _
  refine W_block (W_loop (fun mm e w' => ∃ k : Nat, mm = ks.length - k ∧ k ≤ ks.length ∧ e 12 = .slice ka ks.length kc ∧ e 13 = .int .i64 ks.length ∧ e 14 = .int .i64 k ∧ e 6 = ptr m ∧ Fill B A m (degOf d) ord none (e 7) (treeG ord (ks.take k)) (reps ord (ks.take k)) w' ∧ Ext (fillF B m none) w0 w')
    ks.length ⟨0, by simp, by simp, by simp only [upd_eq, Nat.reduceEqDiff, ↓reduceIte], by simp only [upd_eq, Nat.reduceEqDiff, ↓reduceIte], by simp only [upd_eq, Nat.reduceEqDiff, ↓reduceIte]; rfl, by simp only [upd_eq, Nat.reduceEqDiff, ↓reduceIte], by simp only [upd_eq, Nat.reduceEqDiff, ↓reduceIte]; exact hfill, Ext.refl _ _⟩ ?_)
  clear hfill e0 e1 e
  rintro mm e w' ⟨k, rfl, hk, eS, eL, eI, eM, hfl, X⟩
  by_cases hlt : k < ks.length
  · have ht := lt_tt k ks.length hlt
    refine W_sq fun K hK => (W_text [true] (by kernel_rfl) ?_); simp only [↓List.toList_toArray, ↓rgd, ↓rgf, ↓reduceIte, Nat.reduceEqDiff, rg, ow_61, eL, eI, ht]
    refine hK _ _ ?_; clear hK K
    refine W_seq (W_true (by simp only [evt, evc, upd_eq, Nat.reduceEqDiff, ↓reduceIte, ntT, ntF] <;> rfl) (W_skip ?_))
    show W _ _ _ _ _ _
    obtain ⟨x, hx⟩ : ∃ x, ks[k]? = some x := ⟨_, List.getElem?_eq_getElem hlt⟩
    obtain ⟨ib, io, hka, row⟩ := hk0.at hkv hlt
    have hibl := hk0.lt (hkv.trans (by rw [hka]))
    have ixx := it_at (X.row row (fun _ _ h => by have := hkl _ _ _ _ (hkv.trans (by rw [hka])); rcases h with h | h | h <;> first | omega | cases h)) hx
    rw [hka] at eS
    refine W_seq (W_block ?_)
    refine W_sq fun K hK => (W_text [true, true, false, false] (by kernel_rfl) ?_); simp only [↓List.toList_toArray, ↓rgd, ↓rgf, ↓reduceIte, Nat.reduceEqDiff, rg, ow_61, eS, eI, hlt, ixx]
    refine do_alloc z_it fun w2 n2 => ⟨trivial, ?_⟩
    simp only [↓List.toList_toArray, ↓rgd, ↓rgf, ↓reduceIte, Nat.reduceEqDiff, rg, ow_61]
    refine do_store (v := itV x) (by simp only [evt, evc, upd_eq, Nat.reduceEqDiff, ↓reduceIte, ntT, ntF] <;> rfl) (by simp only [evt, evc, upd_eq, Nat.reduceEqDiff, ↓reduceIte, ntT, ntF] <;> rfl) sz_38 rfl n2.wok (by decide) (itV_oc x) fun w3 x3 r3 s3 => ⟨trivial, ?_⟩
    simp only [↓List.toList_toArray, ↓rgd, ↓rgf, ↓reduceIte, Nat.reduceEqDiff, rg, ow_61]
    refine hK _ _ ?_; clear hK K
    have s2 := n2.size
    have X3 : Ext noF w' w3 := noF_of n2.ext x3 fun y o hy h => by simp only [rng] at h; omega
    have s3 := X3.size
    have ix3 := iX_at (show Row w3 w'.heap.size 0 (E.cel x) from r3)
    rw [← hka] at eS
    have sX := X.size
    obtain ⟨l1, l2, l3⟩ := hfl.lt
    obtain ⟨F0, hM0, hF0, ho0⟩ := hfl.tr
    have hfl3 := hfl.ext X3
    have htl := treeG_len ord (ks.take k)
    have htk : (ks.take k).length ≤ k := by rw [List.length_take]; omega
    refine W_rg fun K hK => (W_text [true, true, true, false, true, true, false, false, false, true] (by kernel_rfl) ?_); simp only [↓List.toList_toArray, ↓rgd, ↓rgf, ↓reduceIte, Nat.reduceEqDiff, rg, ow_61, eM, ix3]
    refine do_call fn_86 (by simp only [evt, evc, upd_eq, Nat.reduceEqDiff, ↓reduceIte, maT, maC, maN, isnN, isnS] <;> rfl) (load_tree A m (degOf d) ord x hd2 hd3 1 _ F0 w3 (hM0.ext X3) (by omega)) ?_
    rintro _ w4 ⟨rfl, x4, F', hM4, hF'⟩
    refine ⟨trivial, ?_⟩
    simp only [↓List.toList_toArray, ↓rgd, ↓rgf, ↓reduceIte, Nat.reduceEqDiff, rg, ow_61]
    obtain ⟨hfl4, X4⟩ := hfl3.step hF0 ho0 (x4.mono fun _ _ _ g => .inl g) hM4 hF' (HOk.none _)
    refine do_call fn_59 (by simp only [evt, evc, upd_eq, Nat.reduceEqDiff, ↓reduceIte, maT, maC, maN, isnN, isnS] <;> rfl) (found_any _ _ w4) ?_
    rintro _ w5 ⟨rfl, X5⟩
    refine ⟨trivial, ?_⟩
    simp only [↓List.toList_toArray, ↓rgd, ↓rgf, ↓reduceIte, Nat.reduceEqDiff, rg, ow_61]
    refine do_bsl rfl (bs_fo1 _) fun w6 n6 => ⟨trivial, ?_⟩
    simp only [↓List.toList_toArray, ↓rgd, ↓rgf, ↓reduceIte, Nat.reduceEqDiff, rg, ow_61]
    have X6 := X5.tr n6.ext
    have s6 := X6.size
    have hrl : (reps ord (ks.take k)).length = k := by rw [reps_length, List.length_take]; omega
    rw [foP_at] at n6
    have hx6 : SlV w6 3 (.slice (some ⟨w5.heap.size, 0, none⟩) 1 1) 1 (Ef.cel (foO (at? O (rkI ord) (rkI ord x) (treeG ord (ks.take k))))) := ⟨rfl, .inr ⟨_, 0, 1, rfl, Nat.le_refl _, n6.row, n6.wok.R (Nat.le_refl _)⟩⟩
    have hfl6 := hfl4.ext X6
    refine do_append (by simp only [evt, evc, upd_eq, Nat.reduceEqDiff, ↓reduceIte, ntT, ntF] <;> rfl) (by simp only [evt, evc, upd_eq, Nat.reduceEqDiff, ↓reduceIte, ntT, ntF] <;> rfl) el_fo rfl ni_fo hfl6.out.sl hx6 (by omega) (by decide) (Ef.one _) fun v7 w7 a7 => ?_
    obtain ⟨hfl7, X7⟩ := hfl6.app a7
    refine ⟨trivial, ?_⟩
    simp only [↓List.toList_toArray, ↓rgd, ↓rgf, ↓reduceIte, Nat.reduceEqDiff, rg, ow_61]
    refine hK _ _ ?_; clear hK K
    show W _ _ _ _ _ _
    have q1 := wadd1 k (by omega)
    refine W_rg fun K hK => (W_text [true, true] (by kernel_rfl) ?_); simp only [↓List.toList_toArray, ↓rgd, ↓rgf, ↓reduceIte, Nat.reduceEqDiff, rg, ow_61, eI, q1]
    refine hK _ _ ?_; clear hK K
    refine ⟨_, ?_, k + 1, rfl, hlt, by simp only [upd_eq, Nat.reduceEqDiff, ↓reduceIte]; exact eS, by simp only [upd_eq, Nat.reduceEqDiff, ↓reduceIte]; exact eL, by simp only [upd_eq, Nat.reduceEqDiff, ↓reduceIte], by simp only [upd_eq, Nat.reduceEqDiff, ↓reduceIte]; exact eM, by simp only [upd_eq, Nat.reduceEqDiff, ↓reduceIte]; rw [reps_succ hx, treeG_succ ord ks k x hx]; exact hfl7, (((X.tr (X3.mono fun _ _ _ h => h.elim)).tr X4).tr (X6.mono fun _ _ _ h => h.elim)).tr X7⟩
    omega
  · obtain rfl : k = ks.length := by omega
    have ht := lt_ff ks.length ks.length (by omega)
    refine W_sq fun K hK => (W_text [true] (by kernel_rfl) ?_); simp only [↓List.toList_toArray, ↓rgd, ↓rgf, ↓reduceIte, Nat.reduceEqDiff, rg, ow_61, eL, eI, ht]
    refine hK _ _ ?_; clear hK K
    refine W_seq (W_false (by simp only [evt, evc, upd_eq, Nat.reduceEqDiff, ↓reduceIte, ntT, ntF] <;> rfl) (W_exit ?_))
    simp only [andThen_exit, inBlk_exit, andThen_normal, ↓reduceIte]
    rw [List.take_length] at hfl
    obtain ⟨F, hM, hFB, ho⟩ := hfl.tr
    obtain ⟨l1, l2, l3⟩ := hfl.lt
    have htl := treeG_len ord ks
    refine W_sq fun K hK => (W_text [true, true, false, true, true] (by kernel_rfl) ?_); simp only [↓List.toList_toArray, ↓rgd, ↓rgf, ↓reduceIte, Nat.reduceEqDiff, rg, ow_61, eM]
    refine do_call fn_55 (by simp only [evt, evc, upd_eq, Nat.reduceEqDiff, ↓reduceIte, maT, maC, maN, isnN, isnS] <;> rfl) (itemsG_any A m (degOf d) ord 1 (treeG ord ks) F w' hM (by omega)) ?_
    rintro v8 w8 ⟨hO, X8⟩
    refine ⟨trivial, ?_⟩
    simp only [↓List.toList_toArray, ↓rgd, ↓rgf, ↓reduceIte, Nat.reduceEqDiff, rg, ow_61]
    refine hK _ _ ?_; clear hK K
    refine W_ret (endQ_2 (by simp only [upd_eq, Nat.reduceEqDiff, ↓reduceIte] <;> rfl) (by simp only [upd_eq, Nat.reduceEqDiff, ↓reduceIte] <;> rfl) ⟨_, _, rfl, (hfl.out.ext X8).sl, hO.sl, ?_⟩)
    refine (noF_of X02 X fun y o hy h => ?_).tr X8
    rcases h with h | h | h <;> first | omega | cases h
theorem fV_fo (x : Option It) : fV x = foV (foO x) := by cases x <;> rfl
set_option maxHeartbeats 1600000 in
set_option maxRecDepth 8000 in
theorem sgset (d : Nat) (ord : List Int) (sv : Value) (nl : Bool) (ks : List It) (kv : Value) (w : World) (hs : SlInt w sv ord) (hsb : ord.length ≤ 2147483647) (hks : SlI w kv ks) (hkb : ks.length ≤ 2147483647) :
    CallK Try.prog 62 #[mkV sv d nl, kv] w fun v w' => ∃ v1 v2, v = .tuple #[v1, v2] ∧ SlV w' 3 v1 (reps ord ks).length (flat Ef (reps ord ks)) ∧ SlI w' v2 (treeG ord ks) ∧ Ext noF w w' := by
  refine calls_of_W [.tmp 4, .tmp 5] Try.func62 rfl Try.ntmps62 Try.results62 (by simp) fun e he => ?_
  have e0 : e 0 = mkV sv d nl := he 0 _ rfl
  have e1 : e 1 = kv := he 1 _ rfl
  clear he
  obtain ⟨ka, kc, hkv⟩ := hks.shape
  rw [hkv] at e1
  refine W_sq fun K hK => (W_text [false, true, true] (by kernel_rfl) ?_); simp only [↓List.toList_toArray, ↓rgd, ↓rgf, ↓reduceIte, Nat.reduceEqDiff, rg, ow_62]
  refine do_box (by simp only [evt]; exact e0) fun w1 n1 => ⟨trivial, ?_⟩
  simp only [↓List.toList_toArray, ↓rgd, ↓rgf, ↓reduceIte, Nat.reduceEqDiff, rg, ow_62]
  refine hK _ _ ?_; clear hK K
  have s1 := n1.size
  have rm1 := show Row w1 w.heap.size 0 (mkL sv d nl) from n1.row
  have X20 := n1.ext
  have hs2 := SlV.ext0 hs X20
  have hk1 := SlV.ext0 hks X20
  clear n1
  refine W_sq fun K hK => (W_text [true] (by kernel_rfl) ?_); simp only [↓List.toList_toArray, ↓rgd, ↓rgf, ↓reduceIte, Nat.reduceEqDiff, rg, ow_62]
  refine hK _ _ ?_; clear hK K
  refine W_sq fun K hK => (W_text [true] (by kernel_rfl) ?_); simp only [↓List.toList_toArray, ↓rgd, ↓rgf, ↓reduceIte, Nat.reduceEqDiff, rg, ow_62]
  refine hK _ _ ?_; clear hK K

  refine W_seq (W_seq ?_)
  refine W_rg fun K hK => (W_text [true, true, true] (by kernel_rfl) ?_); simp only [↓List.toList_toArray, ↓rgd, ↓rgf, ↓reduceIte, Nat.reduceEqDiff, rg, ow_62, e1]
  refine hK _ _ ?_; clear hK K
  show W _ _ _ _ _ _
  refine W_block (W_loop (fun mm e w' => ∃ k : Nat, mm = ks.length - k ∧ k ≤ ks.length ∧ e 11 = .slice ka ks.length kc ∧ e 12 = .int .i64 ks.length ∧ e 13 = .int .i64 k ∧ e 2 = ptr w.heap.size ∧ OutE Ef w1.heap.size (e 6) (reps ord (ks.take k)) w' ∧ SlI w' (e 7) (treeG ord (ks.take k)) ∧ apart2 (e 6) (e 7) ∧ Ext (fun y _ => w1.heap.size ≤ y) w1 w')
    ks.length ⟨0, by simp, by simp, by simp only [upd_eq, Nat.reduceEqDiff, ↓reduceIte], by simp only [upd_eq, Nat.reduceEqDiff, ↓reduceIte], by simp only [upd_eq, Nat.reduceEqDiff, ↓reduceIte]; rfl, by simp only [upd_eq, Nat.reduceEqDiff, ↓reduceIte]; rfl, by simp only [upd_eq, Nat.reduceEqDiff, ↓reduceIte]; exact OutE.nil _ _ _, by simp only [upd_eq, Nat.reduceEqDiff, ↓reduceIte]; exact ⟨rfl, .inl ⟨rfl, rfl⟩⟩, by simp only [upd_eq, Nat.reduceEqDiff, ↓reduceIte]; exact (fun b o n c o' n' c' h => by cases h), Ext.refl _ _⟩ ?_)
  clear e0 e1 e
  rintro mm e w' ⟨k, rfl, hk, eS, eL, eI, e2, hO, hI, hap, X⟩
  by_cases hlt : k < ks.length
  · have ht := lt_tt k ks.length hlt
    refine W_sq fun K hK => (W_text [true] (by kernel_rfl) ?_); simp only [↓List.toList_toArray, ↓rgd, ↓rgf, ↓reduceIte, Nat.reduceEqDiff, rg, ow_62, eL, eI, ht]
    refine hK _ _ ?_; clear hK K
    refine W_seq (W_true (by simp only [evt, evc, upd_eq, Nat.reduceEqDiff, ↓reduceIte, ntT, ntF] <;> rfl) (W_skip ?_))
    show W _ _ _ _ _ _
    obtain ⟨x, hx⟩ : ∃ x, ks[k]? = some x := ⟨_, List.getElem?_eq_getElem hlt⟩
    obtain ⟨ib, io, hka, row⟩ := hks.at hkv hlt
    have hibl := hks.lt (hkv.trans (by rw [hka]))
    have ixx := it_at ((X).row (X20.row row fun _ _ h => h) (fun _ _ h => by have := h; omega)) hx
    rw [hka] at eS
    refine W_seq (W_block ?_)
    refine W_sq fun K hK => (W_text [true, true, false, false] (by kernel_rfl) ?_); simp only [↓List.toList_toArray, ↓rgd, ↓rgf, ↓reduceIte, Nat.reduceEqDiff, rg, ow_62, eS, eI, hlt, ixx]
    refine do_alloc z_it fun w2 n2 => ⟨trivial, ?_⟩
    simp only [↓List.toList_toArray, ↓rgd, ↓rgf, ↓reduceIte, Nat.reduceEqDiff, rg, ow_62]
    refine do_store (v := itV x) (by simp only [evt, evc, upd_eq, Nat.reduceEqDiff, ↓reduceIte, ntT, ntF] <;> rfl) (by simp only [evt, evc, upd_eq, Nat.reduceEqDiff, ↓reduceIte, ntT, ntF] <;> rfl) sz_38 rfl n2.wok (by decide) (itV_oc x) fun w3 x3 r3 s3 => ⟨trivial, ?_⟩
    simp only [↓List.toList_toArray, ↓rgd, ↓rgf, ↓reduceIte, Nat.reduceEqDiff, rg, ow_62]
    refine hK _ _ ?_; clear hK K
    have s2 := n2.size
    have X3 : Ext noF w' w3 := noF_of n2.ext x3 fun y o hy h => by simp only [rng] at h; omega
    have s3 := X3.size
    have ix3 := iX_at (show Row w3 w'.heap.size 0 (E.cel x) from r3)
    rw [← hka] at eS
    have sX := X.size
    have htl := treeG_len ord (ks.take k)
    have htk : (ks.take k).length ≤ k := by rw [List.length_take]; omega
    refine W_sq fun K hK => (W_text [false] (by kernel_rfl) ?_); simp only [↓List.toList_toArray, ↓rgd, ↓rgf, ↓reduceIte, Nat.reduceEqDiff, rg, ow_62]
    refine do_alloc z_fo fun w4 n4 => ⟨trivial, ?_⟩
    simp only [↓List.toList_toArray, ↓rgd, ↓rgf, ↓reduceIte, Nat.reduceEqDiff, rg, ow_62]
    refine hK _ _ ?_; clear hK K
    have s4 := n4.size
    have X34 := X3.tr n4.ext
    have XB : Ext (fun y _ => w1.heap.size ≤ y) w1 w4 := X.tr (X34.mono fun _ _ _ h => h.elim)
    have r0 := mk_at0 (XB.row rm1 fun _ _ g => by omega)
    have ix4 := iX_at (n4.ext.row (show Row w3 w'.heap.size 0 (E.cel x) from r3) fun _ _ h => h)
    have hs4 : SlInt w4 sv ord := SlV.ext hs2 XB fun b o cap h j hj g => by have := SlV.lt hs2 h; omega
    obtain ⟨v6, e6⟩ : ∃ v, e 6 = v := ⟨_, rfl⟩
    obtain ⟨v7, e7⟩ : ∃ v, e 7 = v := ⟨_, rfl⟩
    rw [e6] at hO hap
    rw [e7] at hI hap
    refine W_sq fun K hK => (W_text [true, true, true, true, false, true, true, true, true, false] (by kernel_rfl) ?_); simp only [↓List.toList_toArray, ↓rgd, ↓rgf, ↓reduceIte, Nat.reduceEqDiff, rg, ow_62, e2, e7, ptr_eq, r0, ix4]
    refine do_call fn_74 (by simp only [evt, evc, upd_eq, Nat.reduceEqDiff, ↓reduceIte, maT, maC, maN, isnN, isnS] <;> rfl) (sput_ord sv ord (treeG ord (ks.take k)) v7 x w4 hs4 hsb (SlV.ext0 hI X34) (by omega)) ?_
    rintro _ w5 ⟨pv, rfl, hI5, X5, hsi5⟩
    refine ⟨trivial, ?_⟩
    simp only [↓List.toList_toArray, ↓rgd, ↓rgf, ↓reduceIte, Nat.reduceEqDiff, rg, ow_62, fV_fo]
    refine do_store (v := foV (foO (at? O (rkI ord) (rkI ord x) (treeG ord (ks.take k))))) (by simp only [evt, evc, upd_eq, Nat.reduceEqDiff, ↓reduceIte, ntT, ntF] <;> rfl) (by simp only [evt, evc, upd_eq, Nat.reduceEqDiff, ↓reduceIte, ntT, ntF] <;> rfl) sz_48 rfl (X5.wok n4.wok) (by decide) (oc_fo _) fun w6 x6 r6 s6 => ⟨trivial, ?_⟩
    simp only [↓List.toList_toArray, ↓rgd, ↓rgf, ↓reduceIte, Nat.reduceEqDiff, rg, ow_62]
    refine hK _ _ ?_; clear hK K
    have s5 := X5.size
    have X46 : Ext (rng w3.heap.size 0 3) w5 w6 := x6
    have hO5 := (hO.ext X34).ext X5
    have hO6 : OutE Ef w1.heap.size v6 (reps ord (ks.take k)) w6 := ⟨hO5.sl.ext x6 fun b o cap h j hj g => by
      have := hO.sl.lt h
      simp only [rng] at g
      omega, hO.si⟩
    have hI6 : SlI w6 pv (put O (rkI ord) x (treeG ord (ks.take k))) := SlV.ext hI5 x6 fun b o cap h j hj g => by
      have := hsi5 _ _ _ _ h
      simp only [rng] at g
      omega
    have hap6 : apart2 v6 pv := fun b o n c o' n' c' h1 h2 => by
      have h3 := hO.sl.lt h1
      have h4 := hsi5 _ _ _ _ h2
      have := X34.size
      omega
    have l6 : rdA w6 w3.heap.size 0 3 = some (foV (foO (at? O (rkI ord) (rkI ord x) (treeG ord (ks.take k))))) := (show Row w6 w3.heap.size 0 (Ef.cel _) from r6).rdA 3 (by simp [Ef])
    refine W_rg fun K hK => (W_text [true, true, false, false, true] (by kernel_rfl) ?_); simp only [↓List.toList_toArray, ↓rgd, ↓rgf, ↓reduceIte, Nat.reduceEqDiff, rg, ow_62, e6, l6]
    refine do_bsl rfl (bs_fo1 _) fun w7 n7 => ⟨trivial, ?_⟩
    simp only [↓List.toList_toArray, ↓rgd, ↓rgf, ↓reduceIte, Nat.reduceEqDiff, rg, ow_62]
    have s7 := n7.size
    have hrl : (reps ord (ks.take k)).length = k := by rw [reps_length, List.length_take]; omega
    have hx7 : SlV w7 3 (.slice (some ⟨w6.heap.size, 0, none⟩) 1 1) 1 (Ef.cel (foO (at? O (rkI ord) (rkI ord x) (treeG ord (ks.take k))))) := ⟨rfl, .inr ⟨_, 0, 1, rfl, Nat.le_refl _, n7.row, n7.wok.R (Nat.le_refl _)⟩⟩
    have hO7 := hO6.ext n7.ext
    refine do_append (by simp only [evt, evc, upd_eq, Nat.reduceEqDiff, ↓reduceIte, ntT, ntF] <;> rfl) (by simp only [evt, evc, upd_eq, Nat.reduceEqDiff, ↓reduceIte, ntT, ntF] <;> rfl) el_fo rfl ni_fo hO7.sl hx7 (by omega) (by decide) (Ef.one _) fun v8 w8 a8 => ?_
    obtain ⟨hI8, hap8⟩ := app_other a8 (SlV.ext0 hI6 n7.ext) hap6
    obtain ⟨hO8, X8⟩ := hO7.app a8 (by omega)
    refine ⟨trivial, ?_⟩
    simp only [↓List.toList_toArray, ↓rgd, ↓rgf, ↓reduceIte, Nat.reduceEqDiff, rg, ow_62]
    refine hK _ _ ?_; clear hK K
    have X58 : Ext (fun y _ => w1.heap.size ≤ y) w5 w8 := ((x6.mono fun y o _ g => by simp only [rng] at g; omega).tr (n7.ext.mono fun _ _ _ h => h.elim)).tr X8
    show W _ _ _ _ _ _
    have q1 := wadd1 k (by omega)
    refine W_rg fun K hK => (W_text [true, true] (by kernel_rfl) ?_); simp only [↓List.toList_toArray, ↓rgd, ↓rgf, ↓reduceIte, Nat.reduceEqDiff, rg, ow_62, eI, q1]
    refine hK _ _ ?_; clear hK K
    refine ⟨_, ?_, k + 1, rfl, hlt, by simp only [upd_eq, Nat.reduceEqDiff, ↓reduceIte]; exact eS, by simp only [upd_eq, Nat.reduceEqDiff, ↓reduceIte]; exact eL, by simp only [upd_eq, Nat.reduceEqDiff, ↓reduceIte], by simp only [upd_eq, Nat.reduceEqDiff, ↓reduceIte]; exact e2, by simp only [upd_eq, Nat.reduceEqDiff, ↓reduceIte]; rw [reps_succ hx]; exact hO8, by simp only [upd_eq, Nat.reduceEqDiff, ↓reduceIte]; rw [treeG_succ ord ks k x hx]; exact hI8, by simp only [upd_eq, Nat.reduceEqDiff, ↓reduceIte]; exact hap8, (XB.tr (X5.mono fun _ _ _ h => h.elim)).tr X58⟩
    omega
  · obtain rfl : k = ks.length := by omega
    have ht := lt_ff ks.length ks.length (by omega)
    refine W_sq fun K hK => (W_text [true] (by kernel_rfl) ?_); simp only [↓List.toList_toArray, ↓rgd, ↓rgf, ↓reduceIte, Nat.reduceEqDiff, rg, ow_62, eL, eI, ht]
    refine hK _ _ ?_; clear hK K
    refine W_seq (W_false (by simp only [evt, evc, upd_eq, Nat.reduceEqDiff, ↓reduceIte, ntT, ntF] <;> rfl) (W_exit ?_))
    simp only [andThen_exit, inBlk_exit, andThen_normal, ↓reduceIte]
    refine W_sq fun K hK => (W_text [true, true, true, true] (by kernel_rfl) ?_); simp only [↓List.toList_toArray, ↓rgd, ↓rgf, ↓reduceIte, Nat.reduceEqDiff, rg, ow_62]
    refine hK _ _ ?_; clear hK K
    rw [List.take_length] at hO hI
    refine W_ret (endQ_2 (by simp only [upd_eq, Nat.reduceEqDiff, ↓reduceIte] <;> rfl) (by simp only [upd_eq, Nat.reduceEqDiff, ↓reduceIte] <;> rfl) ⟨_, _, rfl, hO.sl, hI, noF_of X20 X fun y o hy h => by omega⟩)
set_option maxHeartbeats 800000 in
set_option maxRecDepth 8000 in
theorem ascends_any (sv : Value) (ord : List Int) (l : List It) (lv : Value) (w : World) (hs : SlInt w sv ord) (hsb : ord.length ≤ 2147483647) (hl : SlI w lv l) (hbig : l.length ≤ 2147483647) :
    CallK Try.prog 36 #[sv, lv] w fun v w' => (∃ b, v = .bool b) ∧ Ext noF w w' := by
  refine calls_of_W [.tmp 4] Try.func36 rfl Try.ntmps36 Try.results36 (by simp) fun e he => ?_
  have e0 : e 0 = sv := he 0 _ rfl
  have e1 : e 1 = lv := he 1 _ rfl
  clear he
  obtain ⟨a, c, hlv⟩ := SlV.shape hl
  rw [hlv] at e1
  refine W_sq fun K hK => (W_text [true] (by kernel_rfl) ?_); simp only [↓List.toList_toArray, ↓rgd, ↓rgf, ↓reduceIte, Nat.reduceEqDiff, rg, ow_36]
  refine hK _ _ ?_; clear hK K
  refine W_seq (W_seq ?_)
  refine W_rg fun K hK => (W_text [true] (by kernel_rfl) ?_); simp only [↓List.toList_toArray, ↓rgd, ↓rgf, ↓reduceIte, Nat.reduceEqDiff, rg, ow_36]
  refine hK _ _ ?_; clear hK K
  show W _ _ _ _ _ _
  refine W_block (W_loop (fun mm e w' => ∃ k : Nat, mm = l.length - k ∧ 1 ≤ k ∧ e 0 = sv ∧ e 1 = .slice a l.length c ∧ e 5 = .int .i64 k ∧ Ext noF w w')
    (l.length - 1) ⟨1, rfl, Nat.le_refl _, by simp only [upd_eq, Nat.reduceEqDiff, ↓reduceIte]; exact e0, by simp only [upd_eq, Nat.reduceEqDiff, ↓reduceIte]; exact e1, by simp only [upd_eq, Nat.reduceEqDiff, ↓reduceIte]; rfl, Ext.refl _ _⟩ ?_)
  clear e0 e1 e
  rintro mm e w' ⟨k, rfl, hk, e0, e1, e5, X⟩
  refine W_seq ?_
  by_cases hlt : k < l.length
  · have ht := lt_tt k l.length hlt
    refine W_sq fun K hK => (W_text [true, true, true, true] (by kernel_rfl) ?_); simp only [↓List.toList_toArray, ↓rgd, ↓rgf, ↓reduceIte, Nat.reduceEqDiff, rg, ow_36, e1, e5, ht]
    refine hK _ _ ?_; clear hK K
    refine W_true (by simp only [evt, evc, upd_eq, Nat.reduceEqDiff, ↓reduceIte, ntT, ntF] <;> rfl) (W_skip ?_)
    show W _ _ _ _ _ _
    obtain ⟨x, hx⟩ : ∃ x, l[k]? = some x := ⟨_, List.getElem?_eq_getElem hlt⟩
    obtain ⟨y, hy⟩ : ∃ y, l[k - 1]? = some y := ⟨_, List.getElem?_eq_getElem (by omega)⟩
    obtain ⟨ib, io, rfl, row⟩ := SlV.at hl hlv hlt
    have row' := X.row row fun _ _ h => h
    have ix := it_at row' hx
    have iy := it_at row' hy
    have hk1 : k - 1 < l.length := by omega
    have q1 := wsub1 k hk (by omega)
    refine W_seq (W_block ?_)
    refine W_sq fun K hK => (W_free (some none) (.take 0 (.take 1 (.take 2 (.take 3 (.take 4 (.take 5 (.take 6 (.take 7 (.take 8 (.take 9 (.bar 10 .nil))))))))))) mixed (by kernel_rfl) ?_); simp only [↓List.toList_toArray, ↓rgd, ↓rgf, ↓reduceIte, Nat.reduceEqDiff, rg, ow_36, e0, e1, e5, hlt, hk1, ix, iy, q1]
    refine do_call fn_63 (by simp only [evt, evc, upd_eq, Nat.reduceEqDiff, ↓reduceIte, maT, maC, maN, isnN, isnS] <;> rfl) (before_ord sv ord x y _ (SlV.ext0 hs (X.tr (Ext.dr noF _ _))) hsb) ?_
    rintro _ w2 ⟨rfl, X2⟩
    have X2 := X2.od
    refine ⟨trivial, ?_⟩
    simp only [↓List.toList_toArray, ↓rgd, ↓rgf, ↓reduceIte, Nat.reduceEqDiff, rg, ow_36]
    refine hK _ _ ?_; clear hK K
    cases O.lt (rkI ord x) (rkI ord y) with
    | true =>
      refine W_true (by simp only [evt, evc, upd_eq, Nat.reduceEqDiff, ↓reduceIte, ntT, ntF] <;> rfl) ?_
      refine W_sq fun K hK => (W_text [true] (by kernel_rfl) ?_); simp only [↓List.toList_toArray, ↓rgd, ↓rgf, ↓reduceIte, Nat.reduceEqDiff, rg, ow_36]
      refine hK _ _ ?_; clear hK K
      refine W_ret ?_
      simp only [andThen_ret, inBlk_ret]
      exact endQ_1 (by simp only [upd_eq, Nat.reduceEqDiff, ↓reduceIte] <;> rfl) ⟨⟨_, rfl⟩, X.tr X2⟩
    | false =>
      refine W_false (by simp only [evt, evc, upd_eq, Nat.reduceEqDiff, ↓reduceIte, ntT, ntF] <;> rfl) (W_skip ?_)
      show W _ _ _ _ _ _
      have q2 := wadd1 k (by omega)
      refine W_rg fun K hK => (W_text [true, true, true] (by kernel_rfl) ?_); simp only [↓List.toList_toArray, ↓rgd, ↓rgf, ↓reduceIte, Nat.reduceEqDiff, rg, ow_36, e5, q2]
      refine hK _ _ ?_; clear hK K
      refine ⟨_, ?_, k + 1, rfl, by omega, by simp only [upd_eq, Nat.reduceEqDiff, ↓reduceIte]; exact e0, by simp only [upd_eq, Nat.reduceEqDiff, ↓reduceIte]; exact e1, by simp only [upd_eq, Nat.reduceEqDiff, ↓reduceIte], X.tr X2⟩
      omega
  · have ht := lt_ff k l.length (by omega)
    refine W_sq fun K hK => (W_text [true, true, true, true] (by kernel_rfl) ?_); simp only [↓List.toList_toArray, ↓rgd, ↓rgf, ↓reduceIte, Nat.reduceEqDiff, rg, ow_36, e1, e5, ht]
    refine hK _ _ ?_; clear hK K
    refine W_false (by simp only [evt, evc, upd_eq, Nat.reduceEqDiff, ↓reduceIte, ntT, ntF] <;> rfl) (W_exit ?_)
    simp only [andThen_exit, inBlk_exit, andThen_normal, ↓reduceIte]
    refine W_sq fun K hK => (W_text [true] (by kernel_rfl) ?_); simp only [↓List.toList_toArray, ↓rgd, ↓rgf, ↓reduceIte, Nat.reduceEqDiff, rg, ow_36]
    refine hK _ _ ?_; clear hK K
    exact W_ret (endQ_1 (by simp only [upd_eq, Nat.reduceEqDiff, ↓reduceIte] <;> rfl) ⟨⟨_, rfl⟩, X⟩)
def exS : List It := [(1, 5), (3, 2), (3, 4), (5, 1), (7, 6)]
theorem bs_exS : bsV Try.prog 25 5 [(0, iV (1, 5)), (1, iV (3, 2)), (2, iV (3, 4)), (3, iV (5, 1)), (4, iV (7, 6))] = some (38, flat Ei exS) := by kernel_rfl
set_option maxHeartbeats 400000 in
set_option maxRecDepth 8000 in
theorem exSorted_any (w : World) : CallK Try.prog 35 #[] w fun v w' => SlI w' v exS ∧ Ext noF w w' := by
  refine calls_of_W (args := []) [.tmp 0] Try.func35 rfl Try.ntmps35 Try.results35 (by simp) fun e he => ?_
  clear he
  refine W_sq fun K hK => (W_text [true] (by kernel_rfl) ?_); simp only [↓List.toList_toArray, ↓rgd, ↓rgf, ↓reduceIte, Nat.reduceEqDiff, rg]
  refine hK _ _ ?_; clear hK K
  refine W_sq fun K hK => (W_text [true, true, true, true, true, false, true] (by kernel_rfl) ?_); simp only [↓List.toList_toArray, ↓rgd, ↓rgf, ↓reduceIte, Nat.reduceEqDiff, rg, bu_item]
  refine do_bsl rfl bs_exS fun w1 n1 => ⟨trivial, ?_⟩
  simp only [↓List.toList_toArray, ↓rgd, ↓rgf, ↓reduceIte, Nat.reduceEqDiff, rg]
  refine hK _ _ ?_; clear hK K
  exact W_ret (endQ_1 (by simp only [upd_eq, Nat.reduceEqDiff, ↓reduceIte] <;> rfl) ⟨⟨rfl, .inr ⟨_, 0, 5, rfl, Nat.le_refl _, n1.row, n1.wok.R (Nat.le_refl _)⟩⟩, n1.ext⟩)
set_option maxHeartbeats 800000 in
set_option maxRecDepth 8000 in
theorem law_gload (d : Nat) (hd : DOk d) (ord : List Int) (sv : Value) (nl : Bool) (ks : List It) (kv : Value) (w : World) (hs : SlInt w sv ord) (hsb : ord.length ≤ 2147483647) (hks : SlI w kv ks) (hkb : ks.length ≤ 2147483647) :
    CallK Try.prog 34 #[mkV sv d nl, kv] w fun v w' => v = .bool true ∧ Ext noF w w' := by
  refine calls_of_W [.tmp 4] Try.func34 rfl Try.ntmps34 Try.results34 (by simp) fun e he => ?_
  have e0 : e 0 = mkV sv d nl := he 0 _ rfl
  have e1 : e 1 = kv := he 1 _ rfl
  clear he
  have htl := treeG_len ord ks
  have hrl := reps_length ord ks
  refine W_sq fun K hK => (W_text [false, true] (by kernel_rfl) ?_); simp only [↓List.toList_toArray, ↓rgd, ↓rgf, ↓reduceIte, Nat.reduceEqDiff, rg, ow_34]
  refine do_box (by simp only [evt]; exact e0) fun w0 n0 => ⟨trivial, ?_⟩
  simp only [↓List.toList_toArray, ↓rgd, ↓rgf, ↓reduceIte, Nat.reduceEqDiff, rg, ow_34]
  refine hK _ _ ?_; clear hK K
  have rm0 : Row w0 w.heap.size 0 (mkL sv d nl) := n0.row
  have rm := mk_at rm0
  refine W_sq fun K hK => (W_text [true, true, false, true, true, true, true, true] (by kernel_rfl) ?_); simp only [↓List.toList_toArray, ↓rgd, ↓rgf, ↓reduceIte, Nat.reduceEqDiff, rg, ow_34, e1, rm]
  refine do_call fn_61 (by simp only [evt, evc, upd_eq, Nat.reduceEqDiff, ↓reduceIte, maT, maC, maN, isnN, isnS] <;> rfl) (impl_gload d hd ord sv nl ks kv w0 (SlV.ext0 hs n0.ext) hsb (SlV.ext0 hks n0.ext) hkb) ?_
  rintro _ w1 ⟨f1, i1, rfl, hf1, hi1, X1⟩
  refine ⟨trivial, ?_⟩
  simp only [↓List.toList_toArray, ↓rgd, ↓rgf, ↓reduceIte, Nat.reduceEqDiff, rg, ow_34]
  refine hK _ _ ?_; clear hK K
  have rm1 := mk_at (X1.row rm0 fun _ _ h => h)
  have X01 := n0.ext.tr X1
  refine W_sq fun K hK => (W_text [true, true, false, true, true, true, true, true] (by kernel_rfl) ?_); simp only [↓List.toList_toArray, ↓rgd, ↓rgf, ↓reduceIte, Nat.reduceEqDiff, rg, ow_34, e1, rm1]
  refine do_call fn_62 (by simp only [evt, evc, upd_eq, Nat.reduceEqDiff, ↓reduceIte, maT, maC, maN, isnN, isnS] <;> rfl) (sgset d ord sv nl ks kv w1 (SlV.ext0 hs X01) hsb (SlV.ext0 hks X01) hkb) ?_
  rintro _ w2 ⟨f2, i2, rfl, hf2, hi2, X2⟩
  refine ⟨trivial, ?_⟩
  simp only [↓List.toList_toArray, ↓rgd, ↓rgf, ↓reduceIte, Nat.reduceEqDiff, rg, ow_34]
  refine hK _ _ ?_; clear hK K
  refine W_sq fun K hK => (W_text [true, true, false, true, true, true, false, true, true] (by kernel_rfl) ?_); simp only [↓List.toList_toArray, ↓rgd, ↓rgf, ↓reduceIte, Nat.reduceEqDiff, rg, ow_34]
  refine do_call fn_33 (by simp only [evt, evc, upd_eq, Nat.reduceEqDiff, ↓reduceIte, maT, maC, maN, isnN, isnS] <;> rfl) (eq_f (reps ord ks) f1 f2 w2 (hf1.ext0 X2) hf2 (by omega)) ?_
  rintro _ w3 ⟨rfl, r3⟩
  refine ⟨trivial, ?_⟩
  simp only [↓List.toList_toArray, ↓rgd, ↓rgf, ↓reduceIte, Nat.reduceEqDiff, rg, ow_34]
  refine do_call fn_28 (by simp only [evt, evc, upd_eq, Nat.reduceEqDiff, ↓reduceIte, maT, maC, maN, isnN, isnS] <;> rfl) (eq_i (treeG ord ks) i1 i2 w3 (SlV.ext0 hi1 (X2.tr r3.ext)) (SlV.ext0 hi2 r3.ext) (by omega)) ?_
  rintro _ w4 ⟨rfl, r4⟩
  refine ⟨trivial, ?_⟩
  simp only [↓List.toList_toArray, ↓rgd, ↓rgf, ↓reduceIte, Nat.reduceEqDiff, rg, ow_34]
  refine hK _ _ ?_; clear hK K
  exact W_ret (endQ_1 (by simp only [upd_eq, Nat.reduceEqDiff, ↓reduceIte] <;> rfl) ⟨rfl, ((X01.tr X2).tr r3.ext).tr r4.ext⟩)
end Go.Proofs.Ytdffddiaoheklaa
/-
  FnExactGLoad returns true, whatever the arguments. No condition.
-/
set_option linter.unusedSimpArgs false
set_option linter.unusedVariables false
namespace Go.Proofs.Ytdffddiaoheklaa
open Go Go.Proofs
set_option maxHeartbeats 800000 in
set_option maxRecDepth 8000 in
theorem top_FnExactGLoad (ord : List Int) (sv : Value) (d : Int) (nl : Bool) (a0 : List It) (v0 : Value) (w : World) (gs : SlInt w sv ord) (g0 : SlI w v0 a0) :
    CallK Try.prog 10 #[.agg #[sv, .int .i64 d, .bool nl], v0] w fun v w' => v = .bool true ∧ Ext noF w w' := by
  obtain ⟨p0, c0, hv0⟩ := SlV.shape g0
  refine calls_of_W [.tmp 4] Try.func10 rfl Try.ntmps10 Try.results10 (by simp) fun e he => ?_
  have e0 : e 0 = .agg #[sv, .int .i64 d, .bool nl] := he 0 _ rfl
  have e1 : e 1 = v0 := he 1 _ rfl
  clear he
  refine W_sq fun K hK => (W_text [false, true] (by kernel_rfl) ?_); simp only [↓List.toList_toArray, ↓rgd, ↓rgf, ↓reduceIte, Nat.reduceEqDiff, rg, ow_10]
  refine do_box (by simp only [evt]; exact e0) fun w1 n1 => ⟨trivial, ?_⟩
  simp only [↓List.toList_toArray, ↓rgd, ↓rgf, ↓reduceIte, Nat.reduceEqDiff, rg, ow_10]
  refine hK _ _ ?_; clear hK K
  have rm : Row w1 w.heap.size 0 [sv, .int .i64 d, .bool nl] := n1.row
  have XB : Ext noF w w1 := n1.ext
  have rm3 : rdA w1 w.heap.size 0 3 = some (.agg #[sv, .int .i64 d, .bool nl]) := rm.rdA 3 (Nat.le_refl _)
  refine W_seq ?_
  refine W_sq fun K hK => (W_text [true, false, true, true, true, true, true, true] (by kernel_rfl) ?_); simp only [↓List.toList_toArray, ↓rgd, ↓rgf, ↓reduceIte, Nat.reduceEqDiff, rg, ow_10, e1, hv0, rm3]
  refine do_call fn_15 (by simp only [evt, evc, upd_eq, Nat.reduceEqDiff, ↓reduceIte, maT, maC, maN, isnN, isnS] <;> rfl) (fits1_any sv ord (.int .i64 d) nl w1 (SlV.ext0 gs XB)) ?_
  rintro _ wf ⟨rfl, xf⟩
  refine ⟨trivial, ?_⟩
  have XF := XB.tr xf
  by_cases hbo : ord.length ≤ 2147483647
  case neg =>
    have to : decide (ord.length ≤ 2147483647) = false := by simp; omega
    simp only [↓List.toList_toArray, ↓rgd, ↓rgf, ↓reduceIte, Nat.reduceEqDiff, rg, ow_10, e1, hv0, to]
    refine hK _ _ ?_; clear hK K
    refine W_true (by simp only [evt, evc, upd_eq, Nat.reduceEqDiff, ↓reduceIte, ntT, ntF] <;> rfl) ?_
    refine W_sq fun K hK => (W_text [true] (by kernel_rfl) ?_); simp only [↓List.toList_toArray, ↓rgd, ↓rgf, ↓reduceIte, Nat.reduceEqDiff, rg, ow_10]
    refine hK _ _ ?_; clear hK K
    refine W_ret ?_
    simp only [andThen_ret]
    exact endQ_1 (by simp only [upd_eq, Nat.reduceEqDiff, ↓reduceIte] <;> rfl) ⟨rfl, XF⟩
  have to : decide (ord.length ≤ 2147483647) = true := by simp; omega
  by_cases hb0 : a0.length ≤ 2147483647
  case neg =>
    have t0 : decide ((2147483647 : Int) < (a0.length : Int)) = true := by simp; omega
    simp only [↓List.toList_toArray, ↓rgd, ↓rgf, ↓reduceIte, Nat.reduceEqDiff, rg, ow_10, e1, hv0, to, t0]
    refine hK _ _ ?_; clear hK K
    refine W_true (by simp only [evt, evc, upd_eq, Nat.reduceEqDiff, ↓reduceIte, ntT, ntF] <;> rfl) ?_
    refine W_sq fun K hK => (W_text [true] (by kernel_rfl) ?_); simp only [↓List.toList_toArray, ↓rgd, ↓rgf, ↓reduceIte, Nat.reduceEqDiff, rg, ow_10]
    refine hK _ _ ?_; clear hK K
    refine W_ret ?_
    simp only [andThen_ret]
    exact endQ_1 (by simp only [upd_eq, Nat.reduceEqDiff, ↓reduceIte] <;> rfl) ⟨rfl, XF⟩
  have t0 : decide ((2147483647 : Int) < (a0.length : Int)) = false := by simp; omega
  simp only [↓List.toList_toArray, ↓rgd, ↓rgf, ↓reduceIte, Nat.reduceEqDiff, rg, ow_10, e1, hv0, to, t0]
  refine hK _ _ ?_; clear hK K
  refine W_false (by simp only [evt, evc, upd_eq, Nat.reduceEqDiff, ↓reduceIte, ntT, ntF] <;> rfl) (W_skip ?_)
  show W _ _ _ _ _ _
  refine W_sq fun K hK => (W_text [false, false, false, true, true, true, false, true, true, true, true, false, true, true, true, true, true, false, true, true, true] (by kernel_rfl) ?_); simp only [↓List.toList_toArray, ↓rgd, ↓rgf, ↓reduceIte, Nat.reduceEqDiff, rg, ow_10]
  refine do_call fn_17 (by simp only [evt, evc, upd_eq, Nat.reduceEqDiff, ↓reduceIte, maT, maC, maN, isnN, isnS] <;> rfl) (exMake_any wf) ?_
  rintro _ u0 ⟨rfl, z0⟩
  refine ⟨trivial, ?_⟩
  simp only [↓List.toList_toArray, ↓rgd, ↓rgf, ↓reduceIte, Nat.reduceEqDiff, rg, ow_10]
  have Y0 := z0
  refine do_call fn_35 (by simp only [evt, evc, upd_eq, Nat.reduceEqDiff, ↓reduceIte, maT, maC, maN, isnN, isnS] <;> rfl) (exSorted_any u0) ?_
  rintro x0 u1 ⟨q0, y1⟩
  refine ⟨trivial, ?_⟩
  simp only [↓List.toList_toArray, ↓rgd, ↓rgf, ↓reduceIte, Nat.reduceEqDiff, rg, ow_10]
  have Y1 := Y0.tr y1
  refine do_call fn_34 (by simp only [evt, evc, upd_eq, Nat.reduceEqDiff, ↓reduceIte, maT, maC, maN, isnN, isnS] <;> rfl) (law_gload 2 (.inr (by decide)) [] nilS false exS x0 u1 (nil_int _) (by decide) q0 (by decide)) ?_
  rintro _ u2 ⟨rfl, y2⟩
  refine ⟨trivial, ?_⟩
  have Y2 := Y1.tr y2
  have XA := XF.tr Y2
  have rmA := (xf.tr Y2).row rm fun _ _ h => h
  have rd1 := (Row.cons.1 (Row.cons.1 rmA).2).1
  have rmA3 : rdA u2 w.heap.size 0 3 = some (.agg #[sv, .int .i64 d, .bool nl]) := rmA.rdA 3 (Nat.le_refl _)
  rw [Nat.zero_add] at rd1
  simp only [↓List.toList_toArray, ↓rgd, ↓rgf, ↓reduceIte, Nat.reduceEqDiff, rg, ow_10, rd1]
  refine do_call fn_19 (by simp only [evt, evc, upd_eq, Nat.reduceEqDiff, ↓reduceIte, maT, maC, maN, isnN, isnS] <;> rfl) (fits_any d u2) ?_
  rintro _ _ ⟨rfl, rfl⟩
  refine ⟨trivial, ?_⟩
  cases hf : (decide (d = 0) || (decide (2 ≤ d) && decide (d ≤ 128))) with
  | false =>
    simp only [↓List.toList_toArray, ↓rgd, ↓rgf, ↓reduceIte, Nat.reduceEqDiff, rg, ow_10]
    refine hK _ _ ?_; clear hK K
    exact W_ret (endQ_1 (by simp only [upd_eq, Nat.reduceEqDiff, ↓reduceIte] <;> rfl) ⟨rfl, XA⟩)
  | true =>
    have h2 : d = 0 ∨ 2 ≤ d ∧ d ≤ 128 := by simp at hf; omega
    obtain ⟨n, rfl⟩ : ∃ n : Nat, d = n := ⟨d.toNat, by omega⟩
    have rdA0 := mk_at0 (show Row u2 w.heap.size 0 (mkL sv n nl) from rmA)
    simp only [↓List.toList_toArray, ↓rgd, ↓rgf, ↓reduceIte, Nat.reduceEqDiff, rg, ow_10, e1, rdA0]
    refine do_call fn_36 (by simp only [evt, evc, upd_eq, Nat.reduceEqDiff, ↓reduceIte, maT, maC, maN, isnN, isnS] <;> rfl) (ascends_any sv ord a0 v0 u2 (SlV.ext0 gs XA) hbo (SlV.ext0 g0 XA) hb0) ?_
    rintro _ u3 ⟨⟨bb, rfl⟩, ya⟩
    refine ⟨trivial, ?_⟩
    have XA := XA.tr ya
    have rmA3 : rdA u3 w.heap.size 0 3 = some (.agg #[sv, .int .i64 n, .bool nl]) := (ya.row rmA fun _ _ h => h).rdA 3 (Nat.le_refl _)
    cases bb with
    | false =>
      simp only [↓List.toList_toArray, ↓rgd, ↓rgf, ↓reduceIte, Nat.reduceEqDiff, rg, ow_10]
      refine hK _ _ ?_; clear hK K
      exact W_ret (endQ_1 (by simp only [upd_eq, Nat.reduceEqDiff, ↓reduceIte] <;> rfl) ⟨rfl, XA⟩)
    | true =>
      simp only [↓List.toList_toArray, ↓rgd, ↓rgf, ↓reduceIte, Nat.reduceEqDiff, rg, ow_10, e1, rmA3]
      refine do_call fn_34 (by simp only [evt, evc, upd_eq, Nat.reduceEqDiff, ↓reduceIte, maT, maC, maN, isnN, isnS] <;> rfl) (law_gload n (show DOk n by unfold DOk; omega) ord sv nl a0 v0 u3 (SlV.ext0 gs XA) hbo (SlV.ext0 g0 XA) hb0) ?_
      rintro _ u9 ⟨rfl, y9⟩
      refine ⟨trivial, ?_⟩
      simp only [↓List.toList_toArray, ↓rgd, ↓rgf, ↓reduceIte, Nat.reduceEqDiff, rg, ow_10]
      refine hK _ _ ?_; clear hK K
      exact W_ret (endQ_1 (by simp only [upd_eq, Nat.reduceEqDiff, ↓reduceIte] <;> rfl) ⟨rfl, XA.tr y9⟩)
end Go.Proofs.Ytdffddiaoheklaa
/-
  FnExactGLoad: the whole statement: it returns true whatever the input is, and the arguments read as before. No condition.
-/
set_option linter.unusedSimpArgs false
set_option linter.unusedVariables false
namespace Go.Proofs.Ytdffddiaoheklaa
open Go Go.Proofs Go.ChangeShapes Go.WideShapes Go.ChangeAt Go.RowKit
set_option maxRecDepth 100000 in
theorem c_FnExactGLoad (H : Type) (enc : TypeId × Value → H) (W : World) (base : Nat) (args : Array Value) (ds gs : List (DataW H)) (before : List MemPlace)
    (hval : ∀ (j : Nat) t v, Try.f10.params[j]? = some t → args[j]? = some v → Value.okWide Try.prog W .any base t v)
    (hW : DataW.Whole enc Try.prog Try.f10.params.toList Rows.fnExactGLoadSpec.vars false W args.toList ds gs before) :
    Calls Try.prog 10 args W fun e W' => ∃ v, e = .returned v ∧ Rows.fnExactGLoadSpec.post enc Try.prog Try.f10 false true false false W args v W' := by
  have hW' := hW
  obtain ⟨p, q, hA0, hV, rfl, hfz, hnd⟩ := hW
  have hA : DataW.TrodAll enc Try.prog W 0 (fun _ => true) true Try.f10.params.toList args.toList ds p := hA0
  rw [Try.params10] at hA hval
  obtain ⟨v0, v1, d0, d1, p0, p1, rfl, rfl, rfl, h0, h1⟩ := trodAll_two hA
  obtain ⟨rfl, rfl⟩ := trodVars_none hV
  obtain ⟨s0, a0, n0, r0, rfl, g0⟩ := open_make (hval 0 24 v0 rfl rfl) h0 fun b o h => hfz b o (by simp [h])
  obtain ⟨a1, g1⟩ := open_items (hval 1 25 v1 rfl rfl) h1 fun b o h => hfz b o (by simp [h])
  exact calls_law laidOut (by rw [Try.params10]; kernel_rfl) rfl hW' rfl rfl rfl (by kernel_rfl) Try.underlying4 (top_FnExactGLoad r0 s0 a0 n0 a1 v1 W g0 g1)
set_option maxRecDepth 100000 in
theorem l_FnExactGLoad (os : Os) (started : os.Started) (H : Type) (enc : TypeId × Value → H) :
    ReturnsInHanded {} Try.checked os 10 .any (Rows.fnExactGLoadSpec.pre6 enc Try.prog Try.f10 Rows.fnExactGLoadRow.domain false) (Rows.fnExactGLoadSpec.post enc Try.prog Try.f10 false true false false) := by
  refine returnsInHanded_of_change (C := Try.checked) own started (by kernel_rfl) Try.func10
    (ChangeSpec.witness6 (enc := enc) (C := Try.checked) false ⟨#[], #[.agg #[.slice none 0 0, .int .i64 0, .bool false], .slice none 0 0], []⟩ 8 (by kernel_rfl) (by kernel_rfl) (by kernel_rfl) (by kernel_rfl)) ?_
  intro W base args ds gs before hval hW _ _
  exact c_FnExactGLoad H enc W base args ds gs before hval hW
theorem h_FnExactGLoad : Rows.FnExactGLoadSaid :=
  OpenClaim.holds_of_wide 10 Try.f10 rfl rfl rfl rfl rfl rfl rfl ⟨rfl, rfl, rfl, rfl, rfl⟩ rfl rfl rfl rfl rfl (by kernel_rfl) Try.func10 (by kernel_rfl)
    (of_decide_eq_true (by kernel_rfl)) (by unfold Func.isWrapper; first | (rw [if_pos (by decide +kernel)]; kernel_rfl) | (rw [if_neg (by decide +kernel)]; exact ⟨rfl, rfl⟩))
    (fun os started H enc _ => l_FnExactGLoad os started H enc)
#print axioms h_FnExactGLoad
end Go.Proofs.Ytdffddiaoheklaa
