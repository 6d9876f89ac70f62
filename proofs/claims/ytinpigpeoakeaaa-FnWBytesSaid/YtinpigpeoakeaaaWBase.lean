/-
  Lists of strings and of words: equality, fitting, the place of a key. No condition.
-/
import Derived.Test.YtinpigpeoakeaaaMItems
import Derived.Test.YtinpigpeoakeaaaApp
import Derived.Test.YtinpigpeoakeaaaMNode
set_option linter.unusedSimpArgs false
set_option linter.unusedVariables false
namespace Go.Proofs.Ytinpigpeoakeaaa
open Go Go.Proofs
/-- Strings as cells. -/
def Es : Enc ByteArray where
  cel x := [.string x]
  sz := 1
  len _ := rfl
  one x v hv := by simp at hv; subst hv; rfl
  pos := by decide
/-- Whole numbers as cells. -/
def En : Enc Int where
  cel x := [.int .i64 x]
  sz := 1
  len _ := rfl
  one x v hv := by simp at hv; subst hv; rfl
  pos := by decide
/-- Truth values as cells. -/
def Eb : Enc Bool where
  cel x := [.bool x]
  sz := 1
  len _ := rfl
  one x v hv := by simp at hv; subst hv; rfl
  pos := by decide
theorem sV_at {w : World} {b o : Nat} {l : List ByteArray} (h : Row w b o (flat Es l)) {i : Nat} {x : ByteArray} (hi : l[i]? = some x) : rd w b (o + i) = some (.string x) := by
  have := row_cell (row_at Es h hi) (j := 0) rfl
  rwa [show Es.sz = 1 from rfl, Nat.mul_one] at this
theorem ik_at {w : World} {b o : Nat} {l : List It} (h : Row w b o (flat Ei l)) {i : Nat} {x : It} (hi : l[i]? = some x) : rd w b (o + i * 2) = some (kV (κ x)) := by
  have := row_cell (row_at Ei h hi) (j := 0) rfl
  rwa [show Ei.sz = 2 from rfl, Nat.add_zero] at this
theorem iv_at {w : World} {b o : Nat} {l : List It} (h : Row w b o (flat Ei l)) {i : Nat} {x : It} (hi : l[i]? = some x) : rd w b (o + i * 2 + 1) = some (vV x) := by
  have := row_cell (row_at Ei h hi) (j := 1) rfl
  rwa [show Ei.sz = 2 from rfl] at this
theorem ne_s (x : ByteArray) : binV Try.prog .neq 9 (.string x) (.string x) = some (.bool false) := by simp [binV]
theorem len_s (s : ByteArray) : lenV Try.prog 9 (.string s) = some (.int .i64 s.size) := by simp [lenV, Try.underlying9]
theorem kV_eq (T : Nat) (a b : Rk) : binV Try.prog .eql T (kV a) (kV b) = some (.bool (decide (a = b))) := by
  have h : (a.toList == b.toList) = decide (a = b) := by
    by_cases h : a = b
    · subst h; simp
    · have : ¬ a.toList = b.toList := fun g => h (toList_inj g)
      simp [h, this]
  simp [binV, kV, h]
set_option maxHeartbeats 400000 in
set_option maxRecDepth 8000 in
theorem spot_any (l : List It) (lv : Value) (q : Rk) (w : World) (hl : SlI w lv l) (hbig : l.length ≤ 4294967295) :
    CallK Try.prog 44 #[lv, kV q] w fun v w' => v = .tuple #[.int .i64 (lb O κ q l : Nat), .bool (hit O κ q l)] ∧ RO w w' := by
  obtain ⟨a, c, hlv⟩ := hl.shape
  refine calls_of_W [.tmp 4, .tmp 5] Try.func44 rfl Try.ntmps44 Try.results44 (by simp) fun e he => ?_
  have e0 : e 0 = .slice a l.length c := by rw [← hlv]; exact he 0 _ rfl
  have e1 : e 1 = kV q := he 1 _ rfl
  clear he
  have hlbl := lb_le O κ q l
  refine W_sq fun K0 hK => (W_text [true, true] (by kernel_rfl) ?_); simp only [↓List.toList_toArray, ↓rgd, ↓reduceIte, Nat.reduceEqDiff, rg, ow_44]
  refine hK _ _ ?_; clear hK K0
  refine W_sq fun K0 hK => (W_text [true] (by kernel_rfl) ?_); simp only [↓List.toList_toArray, ↓rgd, ↓reduceIte, Nat.reduceEqDiff, rg, ow_44]
  refine hK _ _ ?_; clear hK K0
  refine W_sqx fun K hK => ?_
  have hend : ∀ (e' : Env) (w' : World), RO w w' → e' 0 = .slice a l.length c → e' 1 = kV q → e' 6 = .int .i64 (lb O κ q l : Nat) → K e' w' := by
    intro e w' r e0 e1 e6
    refine hK _ _ ?_; clear hK K
    by_cases hlt : lb O κ q l < l.length
    · obtain ⟨x, hx⟩ : ∃ x, l[lb O κ q l]? = some x := ⟨_, List.getElem?_eq_getElem hlt⟩
      obtain ⟨b, o, rfl, row⟩ := hl.at hlv hlt
      have hk := ik_at ((r.ext (F := noF)).row row fun _ _ h => h) hx
      have ht := lt_tt (lb O κ q l) l.length hlt
      have hb : decide (κ x = q) = hit O κ q l := by
        have h1 := lb_ge O κ hx
        unfold hit
        rw [hx]
        cases h2 : O.lt q (κ x) with
        | true => have : ¬ κ x = q := fun h => by rw [h, O.irr] at h2; cases h2
                  simp [this, h2]
        | false => have : κ x = q := O.tot _ _ h1 h2
                   simp [this, O.irr]
      refine W_sq fun K0 hK => (W_draw (some none) none [(0, 0, 0), (0, 1, 0), (0, 2, 0), (0, 3, 0), (0, 4, 0), (0, 5, 0), (0, 6, 0), (0, 7, 0), (0, 8, 0), (0, 9, 0), (0, 10, 0), (0, 11, 0), (0, 12, 0), (0, 13, 0), (0, 14, 0), (0, 15, 0)] mixed (by kernel_rfl) ?_); simp only [↓List.toList_toArray, ↓rgd, ↓reduceIte, Nat.reduceEqDiff, rg, ow_44, e0, e1, e6, ht, hlt, hk, kV_eq, hb]
      refine hK _ _ ?_; clear hK K0
      exact W_ret (endQ_2 (by simp only [upd_eq, Nat.reduceEqDiff, ↓reduceIte] <;> rfl) (by simp only [upd_eq, Nat.reduceEqDiff, ↓reduceIte] <;> rfl) ⟨rfl, r.tr (RO.dr _ _)⟩)
    · have ht := lt_ff (lb O κ q l) l.length (by omega)
      have hb : hit O κ q l = false := by unfold hit; rw [List.getElem?_eq_none (by omega)]
      refine W_sq fun K0 hK => (W_draw (some none) none [(0, 0, 0), (0, 1, 0), (0, 2, 0), (0, 3, 0), (0, 4, 0), (0, 5, 0), (0, 6, 0), (0, 7, 0), (0, 8, 0), (0, 9, 0), (0, 10, 0), (0, 11, 0), (0, 12, 0), (0, 13, 0), (0, 14, 0), (0, 15, 0)] mixed (by kernel_rfl) ?_); simp only [↓List.toList_toArray, ↓rgd, ↓reduceIte, Nat.reduceEqDiff, rg, ow_44, e0, e1, e6, ht]
      refine hK _ _ ?_; clear hK K0
      exact W_ret (endQ_2 (by simp only [upd_eq, Nat.reduceEqDiff, ↓reduceIte] <;> rfl) (by simp only [upd_eq, Nat.reduceEqDiff, ↓reduceIte] <;> rfl) ⟨by rw [hb], r.tr (RO.dr _ _)⟩)
  clear hK
  refine W_block (W_loop (fun mm e w' => ∃ i : Nat, mm = l.length - i ∧ i ≤ lb O κ q l ∧ RO w w' ∧ e 0 = .slice a l.length c ∧ e 1 = kV q ∧ e 6 = .int .i64 i) l.length ⟨0, rfl, Nat.zero_le _, RO.refl _, ?_, ?_, ?_⟩ ?_)
  · simp only [upd_eq, Nat.reduceEqDiff, ↓reduceIte]; exact e0
  · simp only [upd_eq, Nat.reduceEqDiff, ↓reduceIte]; exact e1
  · simp only [upd_eq, Nat.reduceEqDiff, ↓reduceIte]; rfl
  clear e0 e1 e
  rintro mm e w' ⟨i, rfl, hi, r, e0, e1, e6⟩
  refine W_seq ?_
  by_cases hlt : i < l.length
  · have ht := lt_tt i l.length hlt
    obtain ⟨x, hx⟩ : ∃ x, l[i]? = some x := ⟨_, List.getElem?_eq_getElem hlt⟩
    obtain ⟨b, o, rfl, row⟩ := hl.at hlv hlt
    have hk := ik_at ((r.ext (F := noF)).row row fun _ _ h => h) hx
    cases hq : O.lt (κ x) q with
    | true =>
      have hil : i < lb O κ q l := by
        rcases Nat.lt_or_ge i (lb O κ q l) with g | g
        · exact g
        · have : i = lb O κ q l := by omega
          subst this
          rw [lb_ge O κ hx] at hq; cases hq
      refine W_sq fun K0 hK => (W_text [true, true, true, true, true, true, true, true, true, true, true, true, true] (by kernel_rfl) ?_); simp only [↓List.toList_toArray, ↓rgd, ↓reduceIte, Nat.reduceEqDiff, rg, ow_44, e0, e1, e6, ht, hlt, hk, kV_lt, hq]
      refine hK _ _ ?_; clear hK K0
      refine W_true (by simp only [evt, evc, upd_eq, Nat.reduceEqDiff, ↓reduceIte, ntT, ntF] <;> rfl) (W_skip ?_)
      show W _ _ _ _ _ _
      have q1 := wadd1 i (by omega)
      refine W_block ?_
      refine W_rg fun K0 hK => (W_text [true, true, true] (by kernel_rfl) ?_); simp only [↓List.toList_toArray, ↓rgd, ↓reduceIte, Nat.reduceEqDiff, rg, ow_44, e6, q1]
      refine hK _ _ ?_; clear hK K0
      refine ⟨_, ?_, i + 1, rfl, hil, r, ?_, ?_, ?_⟩
      · omega
      · simp only [upd_eq, Nat.reduceEqDiff, ↓reduceIte]; exact e0
      · simp only [upd_eq, Nat.reduceEqDiff, ↓reduceIte]; exact e1
      · simp only [upd_eq, Nat.reduceEqDiff, ↓reduceIte]
    | false =>
      have hil : i = lb O κ q l := by
        rcases Nat.lt_or_ge i (lb O κ q l) with g | g
        · have := lb_take_lt O κ x (List.mem_iff_getElem?.2 ⟨i, by rw [List.getElem?_take, if_pos g, hx]⟩)
          rw [hq] at this; cases this
        · omega
      refine W_sq fun K0 hK => (W_text [true, true, true, true, true, true, true, true, true, true, true, true, true] (by kernel_rfl) ?_); simp only [↓List.toList_toArray, ↓rgd, ↓reduceIte, Nat.reduceEqDiff, rg, ow_44, e0, e1, e6, ht, hlt, hk, kV_lt, hq]
      refine hK _ _ ?_; clear hK K0
      refine W_false (by simp only [evt, evc, upd_eq, Nat.reduceEqDiff, ↓reduceIte, ntT, ntF] <;> rfl) (W_exit ?_)
      simp only [andThen_exit, inBlk_exit, andThen_normal, Nat.reduceEqDiff, ↓reduceIte]
      refine hend _ _ r ?_ ?_ ?_
      · simp only [upd_eq, Nat.reduceEqDiff, ↓reduceIte]; exact e0
      · simp only [upd_eq, Nat.reduceEqDiff, ↓reduceIte]; exact e1
      · simp only [upd_eq, Nat.reduceEqDiff, ↓reduceIte]; rw [e6, hil]
  · have ht := lt_ff i l.length (by omega)
    refine W_sq fun K0 hK => (W_text [true, true, true, true, true, true, true, true, true, true, true, true, true] (by kernel_rfl) ?_); simp only [↓List.toList_toArray, ↓rgd, ↓reduceIte, Nat.reduceEqDiff, rg, ow_44, e0, e1, e6, ht]
    refine hK _ _ ?_; clear hK K0
    refine W_false (by simp only [evt, evc, upd_eq, Nat.reduceEqDiff, ↓reduceIte, ntT, ntF] <;> rfl) (W_exit ?_)
    simp only [andThen_exit, inBlk_exit, andThen_normal, Nat.reduceEqDiff, ↓reduceIte]
    refine hend _ _ r ?_ ?_ ?_
    · simp only [upd_eq, Nat.reduceEqDiff, ↓reduceIte]; exact e0
    · simp only [upd_eq, Nat.reduceEqDiff, ↓reduceIte]; exact e1
    · simp only [upd_eq, Nat.reduceEqDiff, ↓reduceIte]; rw [e6]; congr 2; omega
set_option maxHeartbeats 400000 in
set_option maxRecDepth 8000 in
theorem fits3_any (x : It) (w : World) : CallK Try.prog 21 #[iV x] w fun v w' => ∃ t, v = .bool t ∧ (t = true → x.1.size ≤ 2147483647) ∧ Ext noF w w' := by
  refine calls_of_W [.tmp 2] Try.func21 rfl Try.ntmps21 Try.results21 (by simp) fun e he => ?_
  have e0 : e 0 = iV x := he 0 _ rfl
  clear he
  refine W_sq fun K0 hK => (W_text [false, true] (by kernel_rfl) ?_); simp only [↓List.toList_toArray, ↓rgd, ↓reduceIte, Nat.reduceEqDiff, rg, ow_21]
  refine do_box (by simp only [evt]; exact e0) fun w1 n1 => ⟨trivial, ?_⟩
  simp only [↓List.toList_toArray, ↓rgd, ↓reduceIte, Nat.reduceEqDiff, rg, ow_21]
  refine hK _ _ ?_; clear hK K0
  have r1 : rd w1 w.heap.size 0 = some (.string x.1) := (Row.cons.1 (show Row w1 w.heap.size 0 [.string x.1, .int .i64 x.2] from n1.row)).1
  refine W_seq ?_
  by_cases h : (x.1.size : Int) > 2147483647
  · have ht : decide ((2147483647 : Int) < (x.1.size : Int)) = true := by simp; omega
    refine W_sq fun K0 hK => (W_text [true, true, true, true] (by kernel_rfl) ?_); simp only [↓List.toList_toArray, ↓rgd, ↓reduceIte, Nat.reduceEqDiff, rg, ow_21, r1, ht, len_s]
    refine hK _ _ ?_; clear hK K0
    refine W_true (by simp only [evt, evc, upd_eq, Nat.reduceEqDiff, ↓reduceIte, ntT, ntF] <;> rfl) ?_
    refine W_sq fun K0 hK => (W_text [true] (by kernel_rfl) ?_); simp only [↓List.toList_toArray, ↓rgd, ↓reduceIte, Nat.reduceEqDiff, rg, ow_21]
    refine hK _ _ ?_; clear hK K0
    refine W_ret ?_
    simp only [andThen_ret]
    exact endQ_1 (by simp only [upd_eq, Nat.reduceEqDiff, ↓reduceIte] <;> rfl) ⟨false, rfl, (fun h => by cases h), n1.ext⟩
  · have ht : decide ((2147483647 : Int) < (x.1.size : Int)) = false := by simp; omega
    refine W_sq fun K0 hK => (W_text [true, true, true, true] (by kernel_rfl) ?_); simp only [↓List.toList_toArray, ↓rgd, ↓reduceIte, Nat.reduceEqDiff, rg, ow_21, r1, ht, len_s]
    refine hK _ _ ?_; clear hK K0
    refine W_false (by simp only [evt, evc, upd_eq, Nat.reduceEqDiff, ↓reduceIte, ntT, ntF] <;> rfl) (W_skip ?_)
    show W _ _ _ _ _ _
    refine W_sq fun K0 hK => (W_text [true] (by kernel_rfl) ?_); simp only [↓List.toList_toArray, ↓rgd, ↓reduceIte, Nat.reduceEqDiff, rg, ow_21]
    refine hK _ _ ?_; clear hK K0
    exact W_ret (endQ_1 (by simp only [upd_eq, Nat.reduceEqDiff, ↓reduceIte] <;> rfl) ⟨true, rfl, fun _ => by omega, n1.ext⟩)
set_option maxHeartbeats 400000 in
set_option maxRecDepth 8000 in
theorem fits2s_any (l : List It) (lv : Value) (w : World) (hl : SlI w lv l) :
    CallK Try.prog 8 #[lv] w fun v w' => ∃ t, v = .bool t ∧ (t = true → l.length ≤ 2147483647 ∧ ∀ x ∈ l, x.1.size ≤ 2147483647) ∧ Ext noF w w' := by
  obtain ⟨a, c, hlv⟩ := hl.shape
  refine calls_of_W [.tmp 2] Try.func8 rfl Try.ntmps8 Try.results8 (by simp) fun e he => ?_
  have e0 : e 0 = .slice a l.length c := by rw [← hlv]; exact he 0 _ rfl
  clear he
  refine W_sq fun K0 hK => (W_text [true] (by kernel_rfl) ?_); simp only [↓List.toList_toArray, ↓rgd, ↓reduceIte, Nat.reduceEqDiff, rg, ow_8]
  refine hK _ _ ?_; clear hK K0
  refine W_seq ?_
  by_cases hbig : l.length ≤ 2147483647
  case neg =>
    have ht : decide ((2147483647 : Int) < (l.length : Int)) = true := by simp; omega
    refine W_sq fun K0 hK => (W_text [true, true, true] (by kernel_rfl) ?_); simp only [↓List.toList_toArray, ↓rgd, ↓reduceIte, Nat.reduceEqDiff, rg, ow_8, e0, ht]
    refine hK _ _ ?_; clear hK K0
    refine W_true (by simp only [evt, evc, upd_eq, Nat.reduceEqDiff, ↓reduceIte, ntT, ntF] <;> rfl) ?_
    refine W_sq fun K0 hK => (W_text [true] (by kernel_rfl) ?_); simp only [↓List.toList_toArray, ↓rgd, ↓reduceIte, Nat.reduceEqDiff, rg, ow_8]
    refine hK _ _ ?_; clear hK K0
    refine W_ret ?_
    simp only [andThen_ret]
    exact endQ_1 (by simp only [upd_eq, Nat.reduceEqDiff, ↓reduceIte] <;> rfl) ⟨false, rfl, (fun h => by cases h), Ext.refl _ _⟩
  have ht : decide ((2147483647 : Int) < (l.length : Int)) = false := by simp; omega
  refine W_sq fun K0 hK => (W_text [true, true, true] (by kernel_rfl) ?_); simp only [↓List.toList_toArray, ↓rgd, ↓reduceIte, Nat.reduceEqDiff, rg, ow_8, e0, ht]
  refine hK _ _ ?_; clear hK K0
  refine W_false (by simp only [evt, evc, upd_eq, Nat.reduceEqDiff, ↓reduceIte, ntT, ntF] <;> rfl) (W_skip ?_)
  show W _ _ _ _ _ _
  refine W_seq (W_seq ?_)
  refine W_rg fun K0 hK => (W_text [true, true, true] (by kernel_rfl) ?_); simp only [↓List.toList_toArray, ↓rgd, ↓reduceIte, Nat.reduceEqDiff, rg, ow_8, e0]
  refine hK _ _ ?_; clear hK K0
  show W _ _ _ _ _ _
  refine W_block (W_loop (fun mm e w' => ∃ i : Nat, mm = l.length - i ∧ i ≤ l.length ∧ (∀ x ∈ l.take i, x.1.size ≤ 2147483647) ∧ Ext noF w w' ∧ e 8 = .slice a l.length c ∧ e 9 = .int .i64 l.length ∧ e 10 = .int .i64 i) l.length ⟨0, rfl, Nat.zero_le _, (fun x h => by simp at h), Ext.refl _ _, ?_, ?_, ?_⟩ ?_)
  · simp only [upd_eq, Nat.reduceEqDiff, ↓reduceIte]
  · simp only [upd_eq, Nat.reduceEqDiff, ↓reduceIte]
  · simp only [upd_eq, Nat.reduceEqDiff, ↓reduceIte]; rfl
  clear e0 e
  rintro mm e w' ⟨i, rfl, hi, hall, X, e8, e9, e10⟩
  by_cases hlt : i < l.length
  · have ht := lt_tt i l.length hlt
    refine W_sq fun K0 hK => (W_text [true] (by kernel_rfl) ?_); simp only [↓List.toList_toArray, ↓rgd, ↓reduceIte, Nat.reduceEqDiff, rg, ow_8, e9, e10, ht]
    refine hK _ _ ?_; clear hK K0
    refine W_seq (W_true (by simp only [evt, evc, upd_eq, Nat.reduceEqDiff, ↓reduceIte, ntT, ntF] <;> rfl) (W_skip ?_))
    show W _ _ _ _ _ _
    obtain ⟨x, hx⟩ : ∃ x, l[i]? = some x := ⟨_, List.getElem?_eq_getElem hlt⟩
    obtain ⟨b, o, rfl, row⟩ := hl.at hlv hlt
    have ix := iV_at (X.row row fun _ _ h => h) hx
    refine W_seq (W_block ?_)
    refine W_sq fun K0 hK => (W_text [true, true, false, false] (by kernel_rfl) ?_); simp only [↓List.toList_toArray, ↓rgd, ↓reduceIte, Nat.reduceEqDiff, rg, ow_8, e8, e10, hlt, ix]
    refine do_alloc z_item fun w2 n2 => ⟨trivial, ?_⟩
    simp only [↓List.toList_toArray, ↓rgd, ↓reduceIte, Nat.reduceEqDiff, rg, ow_8]
    refine do_store (v := iV x) (by simp only [evt, evc, upd_eq, Nat.reduceEqDiff, ↓reduceIte, ntT, ntF] <;> rfl) (by simp only [evt, evc, upd_eq, Nat.reduceEqDiff, ↓reduceIte, ntT, ntF] <;> rfl) sz_31 rfl n2.wok (by decide) (Ei.one x) fun w3 x3 r3 s3 => ⟨trivial, ?_⟩
    simp only [↓List.toList_toArray, ↓rgd, ↓reduceIte, Nat.reduceEqDiff, rg, ow_8]
    refine hK _ _ ?_; clear hK K0
    have X3 : Ext noF w' w3 := noF_of n2.ext x3 fun y o hy h => by simp only [rng] at h; omega
    have bx : rdA w3 w'.heap.size 0 2 = some (iV x) := r3.rdA 2 (by show 2 ≤ 2; omega)
    refine W_sq fun K0 hK => (W_text [true, false, true] (by kernel_rfl) ?_); simp only [↓List.toList_toArray, ↓rgd, ↓reduceIte, Nat.reduceEqDiff, rg, ow_8, bx]
    refine do_call fn_21 (by simp only [evt, evc, upd_eq, Nat.reduceEqDiff, ↓reduceIte, maT, maC, maN, isnN, isnS] <;> rfl) (fits3_any x w3) ?_
    rintro _ w4 ⟨t, rfl, hx4, X4⟩
    refine ⟨trivial, ?_⟩
    simp only [↓List.toList_toArray, ↓rgd, ↓reduceIte, Nat.reduceEqDiff, rg, ow_8]
    refine hK _ _ ?_; clear hK K0
    cases t with
    | false =>
      refine W_true (by simp only [evt, evc, upd_eq, Nat.reduceEqDiff, ↓reduceIte, ntT, ntF] <;> rfl) ?_
      refine W_sq fun K0 hK => (W_text [true] (by kernel_rfl) ?_); simp only [↓List.toList_toArray, ↓rgd, ↓reduceIte, Nat.reduceEqDiff, rg, ow_8]
      refine hK _ _ ?_; clear hK K0
      refine W_ret ?_
      simp only [andThen_ret, inBlk_ret]
      exact endQ_1 (by simp only [upd_eq, Nat.reduceEqDiff, ↓reduceIte] <;> rfl) ⟨false, rfl, (fun h => by cases h), (X.tr X3).tr X4⟩
    | true =>
      refine W_false (by simp only [evt, evc, upd_eq, Nat.reduceEqDiff, ↓reduceIte, ntT, ntF] <;> rfl) (W_skip ?_)
      simp only [inBlk_normal, andThen_normal]
      have q1 := wadd1 i (by omega)
      refine W_rg fun K0 hK => (W_text [true, true] (by kernel_rfl) ?_); simp only [↓List.toList_toArray, ↓rgd, ↓reduceIte, Nat.reduceEqDiff, rg, ow_8, e10, q1]
      refine hK _ _ ?_; clear hK K0
      refine ⟨_, ?_, i + 1, rfl, hlt, fun z hz => ?_, (X.tr X3).tr X4, ?_, ?_, ?_⟩
      · omega
      · rw [List.take_add_one, hx] at hz
        rcases List.mem_append.1 hz with hz | hz
        · exact hall z hz
        · have : z = x := by simpa using hz
          rw [this]; exact hx4 rfl
      · simp only [upd_eq, Nat.reduceEqDiff, ↓reduceIte]; exact e8
      · simp only [upd_eq, Nat.reduceEqDiff, ↓reduceIte]; exact e9
      · simp only [upd_eq, Nat.reduceEqDiff, ↓reduceIte]
  · have ht := lt_ff i l.length (by omega)
    refine W_sq fun K0 hK => (W_text [true] (by kernel_rfl) ?_); simp only [↓List.toList_toArray, ↓rgd, ↓reduceIte, Nat.reduceEqDiff, rg, ow_8, e9, e10, ht]
    refine hK _ _ ?_; clear hK K0
    refine W_seq (W_false (by simp only [evt, evc, upd_eq, Nat.reduceEqDiff, ↓reduceIte, ntT, ntF] <;> rfl) (W_exit ?_))
    simp only [andThen_exit, inBlk_exit, andThen_normal, ↓reduceIte]
    refine W_sq fun K0 hK => (W_text [true] (by kernel_rfl) ?_); simp only [↓List.toList_toArray, ↓rgd, ↓reduceIte, Nat.reduceEqDiff, rg, ow_8]
    refine hK _ _ ?_; clear hK K0
    have hil : i = l.length := by omega
    rw [hil, List.take_length] at hall
    exact W_ret (endQ_1 (by simp only [upd_eq, Nat.reduceEqDiff, ↓reduceIte] <;> rfl) ⟨true, rfl, fun _ => ⟨hbig, hall⟩, X⟩)
theorem fits2_any (l : List It) (lv : Value) (w : World) (hl : SlI w lv l) :
    CallK Try.prog 8 #[lv] w fun v w' => ∃ t, v = .bool t ∧ (t = true → l.length ≤ 2147483647) ∧ Ext noF w w' :=
  CallK_mono (fits2s_any l lv w hl) fun _ _ ⟨t, h1, h2, h3⟩ => ⟨t, h1, fun h => (h2 h).1, h3⟩
end Go.Proofs.Ytinpigpeoakeaaa
