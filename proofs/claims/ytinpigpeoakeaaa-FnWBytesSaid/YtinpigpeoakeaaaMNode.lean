/-
  The map's small functions: a new node, the load of a node that is its own, a node's count. No condition.
-/
import Derived.Test.YtinpigpeoakeaaaMSearch
set_option linter.unusedSimpArgs false
set_option linter.unusedVariables false
namespace Go.Proofs.Ytinpigpeoakeaaa
open Go Go.Proofs
structure Cfg (w : World) (m : Nat) (iso : Int) (d : Nat) : Prop where
  iso : rd w m 0 = some (.int .u64 iso)
  ez : Row w m 4 (E.cel zIt)
  mn : rd w m 6 = some (.int .i64 ((d - 1 : Nat) : Int))
  mx : rd w m 7 = some (.int .i64 ((2 * d - 1 : Nat) : Int))
  cv : rd w m 8 = some (.bool false)
  ci : rd w m 9 = some (.bool false)
  wok : wok w m 10
def cfgF (m : Nat) : Nat → Nat → Prop := fun x o => x = m ∧ o ≠ 2 ∧ o ≠ 3
theorem Cfg.ext {w w' : World} {G : Nat → Nat → Prop} {m : Nat} {iso : Int} {d : Nat} (h : Cfg w m iso d) (hx : Ext G w w') (hG : ∀ o, o ≠ 2 → o ≠ 3 → ¬ G m o) : Cfg w' m iso d :=
  ⟨hx.rd h.iso (hG _ (by decide) (by decide)), hx.row h.ez fun i _ => hG _ (by omega) (by omega), hx.rd h.mn (hG _ (by decide) (by decide)), hx.rd h.mx (hG _ (by decide) (by decide)),
    hx.rd h.cv (hG _ (by decide) (by decide)), hx.rd h.ci (hG _ (by decide) (by decide)), hx.wok h.wok⟩
theorem Ext.od {F : Nat → Nat → Prop} {w w' : World} {n : Nat} (h : Ext F (Go.Proofs.Ytinpigpeoakeaaa.dr w n) w') : Ext F w w' := (Ext.dr F w n).tr h
theorem New.od {w w' : World} {n : Nat} {l : List Value} (h : New (Go.Proofs.Ytinpigpeoakeaaa.dr w n) w' l) : New w w' l := ⟨h.ext.od, h.size, h.row, h.wok⟩
theorem keep3 {F : Nat → Nat → Prop} {w w' : World} {a b c : Nat} (h : Ext F w w') (h1 : a < w.heap.size ∧ ∀ o, ¬ F a o) (h2 : b < w.heap.size ∧ ∀ o, ¬ F b o) (h3 : c < w.heap.size ∧ ∀ o, ¬ F c o) :
    keeps (some (some [a, b, c])) w w' := keeps_on h fun x hx => by
  simp only [List.mem_cons, List.not_mem_nil, or_false] at hx
  rcases hx with rfl | rfl | rfl
  · exact h1
  · exact h2
  · exact h3
theorem on1 (a b c : Nat) : readsB (some (some [a, b, c])) a = true := by simp [readsB]
theorem on2 (a b c : Nat) : readsB (some (some [a, b, c])) b = true := by simp [readsB]
theorem on3 (a b c : Nat) : readsB (some (some [a, b, c])) c = true := by simp [readsB]
structure NewN (w : World) (B b : Nat) (iso : Int) (lf : Bool) : Prop where
  ge : B ≤ b
  h0 : rd w b 0 = some (.int .u64 iso)
  h1 : rd w b 1 = some (.int .i64 0)
  h2 : rd w b 2 = some (.slice none 0 0)
  wb : wok w b 4
  leaf : lf = true → rd w b 3 = some (.pointer none)
  kids : lf = false → ∃ bc, rd w b 3 = some (ptr bc) ∧ B ≤ bc ∧ bc ≠ b ∧ rd w bc 0 = some (.slice none 0 0) ∧ wok w bc 1
theorem z_node : zK Try.prog 90 = some [.int .u64 0, .int .i64 0, .slice none 0 0, .pointer none] := by kernel_rfl
theorem z_kids : zK Try.prog 96 = some [.slice none 0 0] := by kernel_rfl
theorem oc_one {v : Value} {l : List Value} (h : l = [v]) (hv : v.oneCell' = true) : oc l := fun u hu => by rw [h] at hu; simp at hu; rw [hu]; exact hv
theorem noF_of {F : Nat → Nat → Prop} {a b c : World} (h : Ext noF a b) (k : Ext F b c) (hF : ∀ x o, x < a.heap.size → ¬ F x o) : Ext noF a c :=
  h.trans k (fun _ _ h => h) fun x o hx h => hF x o hx h
set_option maxHeartbeats 400000 in
set_option maxRecDepth 8000 in
theorem newNode_any (m : Nat) (lf : Bool) (iso : Int) (w : World) (h0 : rd w m 0 = some (.int .u64 iso)) :
    CallK Try.prog 54 #[ptr m, .bool lf] w fun v w' => ∃ b, v = ptr b ∧ Ext noF w w' ∧ NewN w' w.heap.size b iso lf := by
  refine calls_of_W [.tmp 4] Try.func54 rfl Try.ntmps54 Try.results54 (by simp) fun e he => ?_
  have e0 : e 0 = ptr m := he 0 _ rfl
  have e1 : e 1 = .bool lf := he 1 _ rfl
  clear he
  refine W_sq fun K hK => (W_text [true] (by kernel_rfl) ?_); simp only [↓List.toList_toArray, ↓rgd, ↓reduceIte, Nat.reduceEqDiff, rg, ow_54]
  refine hK _ _ ?_; clear hK K
  refine W_sq fun K hK => (W_text [false, true] (by kernel_rfl) ?_); simp only [↓List.toList_toArray, ↓rgd, ↓reduceIte, Nat.reduceEqDiff, rg, ow_54]
  refine do_alloc z_node fun w1 n1 => ⟨trivial, ?_⟩
  simp only [↓List.toList_toArray, ↓rgd, ↓reduceIte, Nat.reduceEqDiff, rg, ow_54]
  refine hK _ _ ?_; clear hK K
  have r1 := n1.row
  simp only [Row.cons] at r1
  obtain ⟨c0, c1, c2, c3, -⟩ := r1
  have hm := rd_lt h0
  have h01 := n1.ext.rd h0 (fun h => h)
  refine W_sq fun K hK => (W_text [true, true, true, true, true, true, true, false] (by kernel_rfl) ?_); simp only [↓List.toList_toArray, ↓rgd, ↓reduceIte, Nat.reduceEqDiff, rg, ow_54, e0, ptr_eq, h01]
  refine do_store (by simp only [evt, upd_eq, Nat.reduceEqDiff, ↓reduceIte, ntT, ntF] <;> rfl) (by simp only [evt, upd_eq, Nat.reduceEqDiff, ↓reduceIte, ntT, ntF] <;> rfl) sz_67 rfl n1.wok (by decide) (oc_one rfl rfl) fun w2 x2 r2 s2 => ⟨trivial, ?_⟩
  simp only [↓List.toList_toArray, ↓rgd, ↓reduceIte, Nat.reduceEqDiff, rg, ow_54]
  refine hK _ _ ?_; clear hK K
  have d0 : rd w2 w.heap.size 0 = some (.int .u64 iso) := (Row.cons.1 r2).1
  have d1 := x2.rd c1 (by simp [rng])
  have d2 := x2.rd c2 (by simp [rng])
  have d3 := x2.rd c3 (by simp [rng])
  have dw := x2.wok n1.wok
  have X2 : Ext noF w w2 := noF_of n1.ext x2 fun x o hx h => by simp only [rng] at h; omega
  refine W_seq ?_
  refine W_sq fun K hK => (W_text [true, true] (by kernel_rfl) ?_); simp only [↓List.toList_toArray, ↓rgd, ↓reduceIte, Nat.reduceEqDiff, rg, ow_54, e1]
  refine hK _ _ ?_; clear hK K
  cases lf with
  | true =>
    refine W_false (by simp only [evt, upd_eq, Nat.reduceEqDiff, ↓reduceIte, ntT, ntF] <;> rfl) (W_skip ?_)
    show W _ _ _ _ _ _
    refine W_sq fun K hK => (W_text [true, true] (by kernel_rfl) ?_); simp only [↓List.toList_toArray, ↓rgd, ↓reduceIte, Nat.reduceEqDiff, rg, ow_54]
    refine hK _ _ ?_; clear hK K
    refine W_ret (endQ_1 (by simp only [upd_eq, Nat.reduceEqDiff, ↓reduceIte] <;> rfl) ⟨_, rfl, X2, ⟨Nat.le_refl _, d0, d1, d2, dw, fun _ => d3, (fun h => by cases h)⟩⟩)
  | false =>
    refine W_true (by simp only [evt, upd_eq, Nat.reduceEqDiff, ↓reduceIte, ntT, ntF] <;> rfl) ?_
    refine W_rg fun K hK => (W_text [true, false, true, true, false] (by kernel_rfl) ?_); simp only [↓List.toList_toArray, ↓rgd, ↓reduceIte, Nat.reduceEqDiff, rg, ow_54]
    refine do_alloc z_kids fun w3 n3 => ⟨trivial, ?_⟩
    simp only [↓List.toList_toArray, ↓rgd, ↓reduceIte, Nat.reduceEqDiff, rg, ow_54]
    have hs : w2.heap.size = w.heap.size + 1 := by rw [s2, n1.size]
    refine do_store (by simp only [evt, upd_eq, Nat.reduceEqDiff, ↓reduceIte, ntT, ntF] <;> rfl) (by simp only [evt, upd_eq, Nat.reduceEqDiff, ↓reduceIte, ntT, ntF] <;> rfl) sz_88 rfl (n3.ext.wok dw) (by decide) (oc_one rfl rfl) fun w4 x4 r4 s4 => ⟨trivial, ?_⟩
    simp only [↓List.toList_toArray, ↓rgd, ↓reduceIte, Nat.reduceEqDiff, rg, ow_54]
    refine hK _ _ ?_; clear hK K
    show W _ _ _ _ _ _
    refine W_sq fun K hK => (W_text [true, true] (by kernel_rfl) ?_); simp only [↓List.toList_toArray, ↓rgd, ↓reduceIte, Nat.reduceEqDiff, rg, ow_54]
    refine hK _ _ ?_; clear hK K
    have X4 : Ext noF w w4 := noF_of (X2.tr n3.ext) x4 fun x o hx h => by simp only [rng] at h; omega
    refine W_ret (endQ_1 (by simp only [upd_eq, Nat.reduceEqDiff, ↓reduceIte] <;> rfl) ⟨_, rfl, X4, ⟨Nat.le_refl _, x4.rd (n3.ext.rd d0 (fun h => h)) (by simp [rng]), x4.rd (n3.ext.rd d1 (fun h => h)) (by simp [rng]), x4.rd (n3.ext.rd d2 (fun h => h)) (by simp [rng]),
      x4.wok (n3.ext.wok dw), (fun h => by cases h), fun _ => ⟨w2.heap.size, (Row.cons.1 r4).1, by omega, by omega, x4.rd (Row.cons.1 n3.row).1 (by simp [rng] <;> omega), x4.wok n3.wok⟩⟩⟩)
set_option maxHeartbeats 400000 in
set_option maxRecDepth 8000 in
theorem isoLoad_any (m pc po b : Nat) (mu : Bool) (iso : Int) (w : World) (h0 : rd w m 0 = some (.int .u64 iso)) (hp : rd w pc po = some (ptr b)) (hb : rd w b 0 = some (.int .u64 iso)) :
    CallK Try.prog 60 #[ptr m, .pointer (some ⟨pc, po, none⟩), .bool mu] w fun v w' => v = ptr b ∧ RO w w' := by
  refine calls_of_W [.tmp 6] Try.func60 rfl Try.ntmps60 Try.results60 (by simp) fun e he => ?_
  have e0 : e 0 = ptr m := he 0 _ rfl
  have e1 : e 1 = .pointer (some ⟨pc, po, none⟩) := he 1 _ rfl
  have e2 : e 2 = .bool mu := he 2 _ rfl
  clear he
  have hne : (iso != iso) = false := by simp
  refine W_sq fun K hK => (W_text [true] (by kernel_rfl) ?_); simp only [↓List.toList_toArray, ↓rgd, ↓reduceIte, Nat.reduceEqDiff, rg, ow_60]
  refine hK _ _ ?_; clear hK K
  refine W_seq ?_
  cases mu with
  | true =>
    refine W_sq fun K hK => (W_draw (some none) none [(0, 0, 0), (0, 1, 0), (0, 2, 0), (0, 3, 0), (0, 4, 0), (0, 5, 0), (0, 6, 0), (0, 7, 0), (0, 8, 0), (0, 9, 0), (0, 10, 0), (0, 11, 0), (0, 12, 0), (0, 13, 0)] mixed (by kernel_rfl) ?_); simp only [↓List.toList_toArray, ↓rgd, ↓reduceIte, Nat.reduceEqDiff, rg, ow_60, e0, e1, e2, ptr_eq, h0, hp, hb, hne]
    refine hK _ _ ?_; clear hK K
    refine W_false (by simp only [evt, upd_eq, Nat.reduceEqDiff, ↓reduceIte, ntT, ntF] <;> rfl) (W_skip ?_)
    show W _ _ _ _ _ _
    refine W_sq fun K hK => (W_text [true, true, true, true] (by kernel_rfl) ?_); simp only [↓List.toList_toArray, ↓rgd, ↓reduceIte, Nat.reduceEqDiff, rg, ow_60, e1, hp, ptr_eq]
    refine hK _ _ ?_; clear hK K
    exact W_ret (endQ_1 (by simp only [upd_eq, Nat.reduceEqDiff, ↓reduceIte] <;> rfl) ⟨rfl, RO.dr _ _⟩)
  | false =>
    refine W_sq fun K hK => (W_draw (some none) none [(0, 0, 0), (0, 1, 0), (0, 2, 0), (0, 3, 0), (0, 4, 0), (0, 5, 0), (0, 6, 0), (0, 7, 0), (0, 8, 0), (0, 9, 0), (0, 10, 0), (0, 11, 0), (0, 12, 0), (0, 13, 0)] mixed (by kernel_rfl) ?_); simp only [↓List.toList_toArray, ↓rgd, ↓reduceIte, Nat.reduceEqDiff, rg, ow_60, e0, e1, e2, ptr_eq, h0, hp, hb, hne]
    refine hK _ _ ?_; clear hK K
    refine W_false (by simp only [evt, upd_eq, Nat.reduceEqDiff, ↓reduceIte, ntT, ntF] <;> rfl) (W_skip ?_)
    show W _ _ _ _ _ _
    refine W_sq fun K hK => (W_text [true, true, true, true] (by kernel_rfl) ?_); simp only [↓List.toList_toArray, ↓rgd, ↓reduceIte, Nat.reduceEqDiff, rg, ow_60, e1, hp, ptr_eq]
    refine hK _ _ ?_; clear hK K
    exact W_ret (endQ_1 (by simp only [upd_eq, Nat.reduceEqDiff, ↓reduceIte] <;> rfl) ⟨rfl, RO.dr _ _⟩)
set_option maxHeartbeats 400000 in
set_option maxRecDepth 8000 in
theorem count_leaf (b n cap : Nat) (a : Addr) (w : World) (h2 : rd w b 2 = some (.slice (some a) n cap)) (h3 : rd w b 3 = some (.pointer none)) (wb : wok w b 4) :
    CallK Try.prog 57 #[ptr b] w fun _ w' => Ext (rng b 1 1) w w' ∧ rd w' b 1 = some (.int .i64 n) ∧ w'.heap.size = w.heap.size := by
  refine calls_of_W [] Try.func57 rfl Try.ntmps57 Try.results57 (by simp) fun e he => ?_
  have e0 : e 0 = ptr b := he 0 _ rfl
  clear he
  refine W_sq fun K hK => (W_text [true, true, true, true, true, true, true, true, false] (by kernel_rfl) ?_); simp only [↓List.toList_toArray, ↓rgd, ↓reduceIte, Nat.reduceEqDiff, rg, ow_57, e0, ptr_eq, h2]
  refine do_store (by simp only [evt, upd_eq, Nat.reduceEqDiff, ↓reduceIte, ntT, ntF] <;> rfl) (by simp only [evt, upd_eq, Nat.reduceEqDiff, ↓reduceIte, ntT, ntF] <;> rfl) sz_3 rfl wb (by decide) (oc_one rfl rfl) fun w1 x1 r1 s1 => ⟨trivial, ?_⟩
  simp only [↓List.toList_toArray, ↓rgd, ↓reduceIte, Nat.reduceEqDiff, rg, ow_57]
  refine hK _ _ ?_; clear hK K
  have d3 := x1.rd h3 (by simp [rng])
  have d1 := (Row.cons.1 r1).1
  refine W_sq fun K hK => (W_text [true, false, true] (by kernel_rfl) ?_); simp only [↓List.toList_toArray, ↓rgd, ↓reduceIte, Nat.reduceEqDiff, rg, ow_57, e0]
  refine do_call fn_58 rfl (by simpa only [evt, upd_eq, Nat.reduceEqDiff, ↓reduceIte, List.map_toArray, List.map_cons, List.map_nil] using leaf_any b none w1 d3) ?_
  rintro v w2 ⟨rfl, rfl⟩
  refine ⟨trivial, ?_⟩
  simp only [↓List.toList_toArray, ↓rgd, ↓reduceIte, Nat.reduceEqDiff, rg, ow_57]
  refine hK _ _ ?_; clear hK K
  refine W_false (by simp only [evt, upd_eq, Nat.reduceEqDiff, ↓reduceIte, ntT, ntF] <;> rfl) (W_skip ?_)
  show endQ _ _ _ _ _ _
  exact endQ_0n ⟨x1, d1, s1⟩
end Go.Proofs.Ytinpigpeoakeaaa
