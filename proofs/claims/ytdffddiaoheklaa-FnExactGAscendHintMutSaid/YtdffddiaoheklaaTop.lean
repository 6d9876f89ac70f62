/-
  From a law's contract (it returns true, and what was there before is as it was) to its row. For whatever program. No condition.
-/
import Derived.Test.YtdffddiaoheklaaTree
import Derived.WalkKit
import Derived.ProofKit
import Derived.OpenShut
import Derived.JoinedOf
import Derived.Carry
import Derived.ChangeSame
import Derived.Deep.SlicePairs
set_option linter.unusedSimpArgs false
set_option linter.unusedVariables false
namespace Go.Proofs.Ytdffddiaoheklaa
open Go Go.ChangeShapes Go.WideShapes Go.ChangeAt Go.RowKit
theorem below_of_ext {w w' : World} (h : Ext noF w w') : Below w.heap.size w w' := ⟨h.os, h.tape, h.output, h.size, fun _ hk => h.block hk fun _ f => f⟩
section
variable {H : Type} {enc : TypeId × Value → H} {P : Program}
theorem trodAll_stays (hl : laidOutB P = true) {W W' : World} (hb : Below W.heap.size W W') {sp : Nat → Bool} : ∀ (ts : List TypeId) (vs : List Value) (ds : List (DataW H)) (ps : List MemPlace),
    ts.all (fun t => P.readableRec t && decide (t < P.types.size)) = true → DataW.TrodAll enc P W 0 (fun _ => true) true ts vs ds ps → (∀ x ∈ ps, x.block < W.heap.size) → (∀ x ∈ ps, sp x.block = true) →
    DataW.TrodAll enc P W' 0 sp true ts vs ds ps
  | [], [], [], _, _, h, _, _ => h
  | t :: ts, v :: vs, d :: ds, ps, ht, ⟨p, q, h1, h2, he⟩, hlt, hs => by
    subst he
    simp only [List.all_cons, Bool.and_eq_true, decide_eq_true_eq] at ht
    exact ⟨p, q, WideElems.Trod_stays hl ht.1.1 ht.1.2 h1 (fun x hx => hb.same (hlt x (by simp [hx]))) (fun x hx => hs x (by simp [hx])),
      trodAll_stays hl hb ts vs ds q ht.2 h2 (fun x hx => hlt x (by simp [hx])) (fun x hx => hs x (by simp [hx])), rfl⟩
  | [], _ :: _, _, _, _, h, _, _ => h.elim
  | [], [], _ :: _, _, _, h, _, _ => h.elim
  | _ :: _, [], _, _, _, h, _, _ => h.elim
  | _ :: _, _ :: _, [], _, _, h, _, _ => h.elim
theorem post_law {f : Func} {s : ChangeSpec} {apart fresh handsOn again : Bool} {W W' : World} {args : Array Value} {ds gs : List (DataW H)} {before : List MemPlace} {T : TypeId}
    (hl : laidOutB P = true) (hts : f.params.toList.all (fun t => P.readableRec t && decide (t < P.types.size)) = true) (hsv : s.vars = [])
    (hW : DataW.Whole enc P f.params.toList s.vars apart W args.toList ds gs before)
    (hr : (s.fn H (ds ++ gs)).results = [.lit (.bool true)]) (ha : (s.fn H (ds ++ gs)).args = ds) (hv : (s.fn H (ds ++ gs)).vars = [])
    (hx : Ext noF W W') (hrt : f.resultTypes = #[T]) (hT : P.underlying T = some .bool) :
    s.post enc P f apart fresh handsOn again W args (.bool true) W' := by
  have hb := below_of_ext hx
  have hlt : ∀ p ∈ before, p.block < W.heap.size := fun p hp => hW.lt p hp
  have hold : ∀ p ∈ before, (fun b => decide (b < W.heap.size)) p.block = true := fun p hp => by simpa using hlt p hp
  obtain ⟨p, q, hA, hV, hpq, hz, hn⟩ := id hW
  rw [hsv] at hV
  obtain ⟨rfl, rfl⟩ := trodVars_none hV
  rw [List.append_nil] at hpq
  subst hpq
  have hres : ∀ (b : Nat) (sp : Nat → Bool) (hd : Bool), DataW.TrodAll enc P W' b sp hd f.resultTypes.toList ((Value.bool true).resultList f.resultTypes.size) (s.fn H (ds ++ [])).results [] := fun b sp hd => by
    rw [hr, hrt]; exact trodAll_mk1 (shut_bool hT true)
  have hargs : ∀ sp : Nat → Bool, (∀ x ∈ before, sp x.block = true) → DataW.TrodAll enc P W' 0 sp true f.params.toList args.toList (s.fn H (ds ++ [])).args before := fun sp hs => by
    rw [ha]; exact trodAll_stays hl hb _ _ _ _ hts hA hlt hs
  have hvars : ∀ sp : Nat → Bool, DataW.TrodVars enc P W' sp s.vars (s.fn H (ds ++ [])).vars [] := fun sp => by
    rw [hv, hsv]; rfl
  refine ⟨ds, [], before, [], before, [], hW, hres _ _ _, hargs _ hold, hvars _, World.keptBut_mono (fun x hx => ⟨hx, ?_⟩) (hb.frame (· ∈ before)), fun _ => ?_⟩
  · exact Or.inr (Or.inl hx)
  · refine ⟨ok_one hrt rfl (okWide_bool_mk hT _), _, _, ([] ++ before) ++ [], ⟨[] ++ before, [], trodAll_append (hargs _ (fun _ _ => rfl)) (hres _ _ _), hvars _, rfl, ?_, ?_⟩, ?_⟩
    · intro b off hp
      have hin : MemPlace.cell b off ∈ before := by simpa using hp
      rw [hb.frozen (hlt _ hin)]
      exact hz b off hin
    · intro ha
      simpa using hn ha
    · intro x hx _
      simpa using hx
theorem calls_law {f : Nat} {fn : Func} {s : ChangeSpec} {apart fresh handsOn again : Bool} {W : World} {args : Array Value} {ds gs : List (DataW H)} {before : List MemPlace} {T : TypeId}
    (hl : laidOutB P = true) (hts : fn.params.toList.all (fun t => P.readableRec t && decide (t < P.types.size)) = true) (hsv : s.vars = [])
    (hW : DataW.Whole enc P fn.params.toList s.vars apart W args.toList ds gs before)
    (hr : (s.fn H (ds ++ gs)).results = [.lit (.bool true)]) (ha : (s.fn H (ds ++ gs)).args = ds) (hv : (s.fn H (ds ++ gs)).vars = [])
    (hrt : fn.resultTypes = #[T]) (hT : P.underlying T = some .bool) (hc : CallK P f args W fun v w' => v = .bool true ∧ Ext noF W w') :
    Calls P f args W fun e W' => ∃ v, e = .returned v ∧ s.post enc P fn apart fresh handsOn again W args v W' :=
  Calls.mono hc fun _ _ ⟨_, he, hv', hx⟩ => ⟨_, he, hv' ▸ post_law hl hts hsv hW hr ha hv hx hrt hT⟩
/-! ### Arguments that are lists of whole numbers of cells -/
theorem row_flat {α : Type} {E : Enc α} {w : World} {b : Nat} : ∀ (l : List α) (o : Nat), (∀ i x, l[i]? = some x → Row w b (o + i * E.sz) (E.cel x)) → Row w b o (flat E l)
  | [], o, _ => Row.nil _ _ _
  | x :: l, o, h => by
    rw [flat_cons]
    refine Row.append.2 ⟨by simpa using h 0 x rfl, ?_⟩
    rw [E.len]
    exact row_flat l _ fun i y hi => by
      have := h (i + 1) y (by simpa using hi)
      rwa [Nat.add_mul, Nat.one_mul, Nat.add_comm (i * E.sz), ← Nat.add_assoc] at this
theorem pick_list {α : Type} {p : Nat → α → Prop} : ∀ n : Nat, (∀ i, i < n → ∃ x, p i x) → ∃ l : List α, l.length = n ∧ ∀ i x, l[i]? = some x → p i x
  | 0, _ => ⟨[], rfl, fun _ _ h => by simp at h⟩
  | n + 1, h => by
    obtain ⟨l, hl, hp⟩ := pick_list n fun i hi => h i (by omega)
    obtain ⟨x, hx⟩ := h n (by omega)
    refine ⟨l ++ [x], by simp [hl], fun i y hy => ?_⟩
    rcases Nat.lt_or_ge i n with g | g
    · rw [List.getElem?_append_left (by omega)] at hy; exact hp i y hy
    · rw [List.getElem?_append_right (by omega)] at hy
      have hlt := (List.getElem?_eq_some_iff.1 hy).1
      simp at hlt
      obtain rfl : i = n := by omega
      simp [hl] at hy
      subst hy; exact hx
open Go.Deep in
/-- A slice argument, read as a list of elements. -/
theorem open_enc {α : Type} (E : Enc α) {w : World} {t e : TypeId} {base fuel : Nat} {v : Value} {d : DataW H} {ps : List MemPlace} (ht : P.underlying t = some (.slice e)) (hce : P.cellsOf e = E.sz)
    (helem : ∀ n cs x, DataW.trod enc P w 0 (fun _ => true) true n e cs = some x → cs.length = E.sz → ∃ a : α, cs = E.cel a)
    (hok : Cell.ok P w .any base t v) (h : DataW.trod enc P w 0 (fun _ => true) true fuel t [v] = some (d, ps)) (hz : ∀ b o, MemPlace.cell b o ∈ ps → w.frozen? ⟨b, o, none⟩ = false) :
    ∃ l : List α, SlV w E.sz v l.length (flat E l) := by
  rcases open_slice ht h with ⟨h1, h2⟩ | ⟨a, len, cap, m, n, D, Pl, h1, _, hlc, hcm, hm, hx, hall⟩
  · simp only [List.cons.injEq, and_true] at h1
    subst h1
    exact ⟨[], by simp [flat], .inl ⟨rfl, rfl⟩⟩
  · simp only [List.cons.injEq, and_true] at h1
    subst h1
    simp only [if_true] at hm
    subst hm
    rw [hce] at hall hx
    simp only [Prod.mk.injEq] at hx
    obtain ⟨-, hps⟩ := hx
    simp only [Cell.ok, ht] at hok
    obtain ⟨_, _, _, hsp, row, cells, hshape, _⟩ := hok
    obtain ⟨b, o, sp⟩ := a
    simp only at hsp hshape
    subst hsp
    obtain ⟨c, fr, hb⟩ : ∃ c fr, w.heap[b]? = some (.cells c row fr) := by
      unfold World.shape? at hshape
      split at hshape
      · rename_i c e f hb
        simp only [Option.some.injEq, Prod.mk.injEq] at hshape
        obtain ⟨rfl, _⟩ := hshape
        exact ⟨c, f, hb⟩
      · cases hshape
    obtain ⟨l, hl, hp⟩ := pick_list (p := fun i (x : α) => Row w b (o + i * E.sz) (E.cel x)) m fun i hi => by
      obtain ⟨cs, hc, htr⟩ := hall i hi
      obtain ⟨_, hlen, hcell⟩ := World.cells?_some hc
      obtain ⟨x, rfl⟩ := helem _ _ _ htr hlen
      refine ⟨x, fun j v hj => ?_⟩
      have hlt := (List.getElem?_eq_some_iff.1 hj).1
      have := hcell j (by omega)
      rw [add_mk, add_mk, hj] at this
      exact this
    have hRow : Row w b o (flat E l) := row_flat l o hp
    have hfl : (flat E l).length = m * E.sz := by rw [flat_length, hl]
    have hle : len * E.sz ≤ m * E.sz := Nat.mul_le_mul_right _ hlc
    refine ⟨l.take len, ?_⟩
    have hll : (l.take len).length = len := by rw [List.length_take]; omega
    rw [hll]
    refine ⟨by rw [flat_length, hll], .inr ⟨b, o, m, rfl, hlc, by rw [← flat_take]; exact hRow.take _, c, row, fr, hb, ?_, fun j h1 h2 h3 => ?_⟩⟩
    · rcases Nat.eq_zero_or_pos (m * E.sz) with h0 | h0
      · exact .inl h0
      · right
        have h1 : (flat E l)[m * E.sz - 1]? = some (flat E l)[m * E.sz - 1] := List.getElem?_eq_getElem (by omega)
        have := hRow _ _ h1
        rw [rd_of hb] at this
        have := (Array.getElem?_eq_some_iff.1 this).1
        omega
    · have hin : MemPlace.cell b j ∈ ps := by
        rw [hps]
        refine List.mem_append_left _ ?_
        simp only [MemPlace.row, List.mem_map, List.mem_range]
        exact ⟨j - o, by omega, by congr 1; omega⟩
      have := hz b j hin
      simp [World.frozen?, hb] at this
      have := this h3.1
      omega
theorem open_arg {α : Type} (E : Enc α) {w : World} {t e : TypeId} {base : Nat} {v : Value} {d : DataW H} {ps : List MemPlace} (ht : P.underlying t = some (.slice e)) (hce : P.cellsOf e = E.sz)
    (helem : ∀ n cs x, DataW.trod enc P w 0 (fun _ => true) true n e cs = some x → cs.length = E.sz → ∃ a : α, cs = E.cel a)
    (hok : Value.okWide P w .any base t v) (h : DataW.Trod enc P w 0 (fun _ => true) true t v d ps) (hz : ∀ b o, MemPlace.cell b o ∈ ps → w.frozen? ⟨b, o, none⟩ = false) :
    ∃ l : List α, SlV w E.sz v l.length (flat E l) := by
  have hc : Cell.ok P w .any base t v := by
    unfold Value.okWide at hok
    simp only [ht] at hok
    unfold Cell.okWide at hok
    simp only [ht] at hok
    exact hok
  have hv : v.cells.toList = [v] := by
    unfold Cell.ok at hc
    simp only [ht] at hc
    cases v <;> first | rfl | exact hc.elim
  obtain ⟨fuel, h⟩ := h
  rw [hv] at h
  exact open_enc E ht hce helem hc h hz
/-- An element of one whole number. -/
theorem elem_int {w : World} {e : TypeId} (he : P.underlying e = some (.int .i64)) : ∀ n cs x, DataW.trod enc P w 0 (fun _ => true) true n e cs = some x → cs.length = 1 → ∃ a : Int, cs = [.int .i64 a] := by
  intro n cs x h hl
  obtain ⟨a, h1, _, _⟩ := DataW.trod_int he h
  exact ⟨a, h1⟩
/-- An element of two whole numbers. -/
theorem elem_int2 {w : World} {e : TypeId} {f0 f1 : Field} (he : P.underlying e = some (.struct #[f0, f1])) (o0 : f0.offset = 0) (o1 : f1.offset = 1) (c0 : P.cellsOf f0.type = 1) (c1 : P.cellsOf f1.type = 1)
    (u0 : P.underlying f0.type = some (.int .i64)) (u1 : P.underlying f1.type = some (.int .i64)) :
    ∀ n cs x, DataW.trod enc P w 0 (fun _ => true) true n e cs = some x → cs.length = 2 → ∃ a : Int × Int, cs = [.int .i64 a.1, .int .i64 a.2] := by
  intro n cs x h hl
  obtain ⟨xs, k, _, _, _, hxl, hf⟩ := DataW.trod_struct he h
  match xs, hxl, cs, hl with
  | [y0, y1], _, [v0, v1], _ =>
    have g0 := hf 0 f0 rfl
    have g1 := hf 1 f1 rfl
    simp [o0, o1, c0, c1] at g0 g1
    obtain ⟨a, h1, _, _⟩ := DataW.trod_int u0 g0
    obtain ⟨b, h2, _, _⟩ := DataW.trod_int u1 g1
    simp only [List.cons.injEq, and_true] at h1 h2
    exact ⟨(a, b), by rw [h1, h2]⟩
end
end Go.Proofs.Ytdffddiaoheklaa
