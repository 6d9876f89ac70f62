/-
  The map's small functions: a new node, the load of a node that is its own, a node's count. No condition.
-/
import Derived.Test.YtdffddiaoheklaaMLeaf
import Derived.Test.YtdffddiaoheklaaMCfg
set_option linter.unusedSimpArgs false
set_option linter.unusedVariables false
namespace Go.Proofs.Ytdffddiaoheklaa
open Go Go.Proofs
theorem Ext.od {F : Nat → Nat → Prop} {w w' : World} {n : Nat} (h : Ext F (Go.Proofs.Ytdffddiaoheklaa.dr w n) w') : Ext F w w' := (Ext.dr F w n).tr h
theorem New.od {w w' : World} {n : Nat} {l : List Value} (h : New (Go.Proofs.Ytdffddiaoheklaa.dr w n) w' l) : New w w' l := ⟨h.ext.od, h.size, h.row, h.wok⟩
theorem keep3 {F : Nat → Nat → Prop} {w w' : World} {a b c : Nat} (h : Ext F w w') (h1 : a < w.heap.size ∧ ∀ o, ¬ F a o) (h2 : b < w.heap.size ∧ ∀ o, ¬ F b o) (h3 : c < w.heap.size ∧ ∀ o, ¬ F c o) :
    keeps (some (some [a, b, c])) w w' := keeps_on h fun x hx => by
  simp only [List.mem_cons, List.not_mem_nil, or_false] at hx
  rcases hx with rfl | rfl | rfl
  · exact h1
  · exact h2
  · exact h3
theorem on1 (a b c : Nat) : readsB (some (some [a, b, c])) a = true := by simp [readsB]
theorem on2 (a b c : Nat) : readsB (some (some [a, b, c])) b = true := by simp [readsB]
theorem on3 (a b c : Nat) : readsB (some (some [a, b, c])) c = true := by simp [readsB]
structure NewN (w : World) (B b : Nat) (iso : Int) (lf : Bool) : Prop where
  ge : B ≤ b
  h0 : rd w b 0 = some (.int .u64 iso)
  h1 : rd w b 1 = some (.int .i64 0)
  h2 : rd w b 2 = some (.slice none 0 0)
  wb : wok w b 4
  leaf : lf = true → rd w b 3 = some (.pointer none)
  kids : lf = false → ∃ bc, rd w b 3 = some (ptr bc) ∧ B ≤ bc ∧ bc ≠ b ∧ rd w bc 0 = some (.slice none 0 0) ∧ wok w bc 1
theorem z_kids : zK Try.prog 117 = some [.slice none 0 0] := by kernel_rfl
theorem oc_one {v : Value} {l : List Value} (h : l = [v]) (hv : v.oneCell' = true) : oc l := fun u hu => by rw [h] at hu; simp at hu; rw [hu]; exact hv
theorem noF_of {F : Nat → Nat → Prop} {a b c : World} (h : Ext noF a b) (k : Ext F b c) (hF : ∀ x o, x < a.heap.size → ¬ F x o) : Ext noF a c :=
  h.trans k (fun _ _ h => h) fun x o hx h => hF x o hx h
set_option maxHeartbeats 400000 in
set_option maxRecDepth 8000 in
theorem isoLoad_any (m pc po b : Nat) (mu : Bool) (iso : Int) (w : World) (h0 : rd w m 0 = some (.int .u64 iso)) (hp : rd w pc po = some (ptr b)) (hb : rd w b 0 = some (.int .u64 iso)) :
    CallK Try.prog 107 #[ptr m, .pointer (some ⟨pc, po, none⟩), .bool mu] w fun v w' => v = ptr b ∧ RO w w' := by
  refine calls_of_W [.tmp 6] Try.func107 rfl Try.ntmps107 Try.results107 (by simp) fun e he => ?_
  have e0 : e 0 = ptr m := he 0 _ rfl
  have e1 : e 1 = .pointer (some ⟨pc, po, none⟩) := he 1 _ rfl
  have e2 : e 2 = .bool mu := he 2 _ rfl
  clear he
  have hne : (iso != iso) = false := by simp
  refine W_sq fun K hK => (W_text [true] (by kernel_rfl) ?_); simp only [↓List.toList_toArray, ↓rgd, ↓rgf, ↓reduceIte, Nat.reduceEqDiff, rg, ow_107]
  refine hK _ _ ?_; clear hK K
  refine W_seq ?_
  cases mu with
  | true =>
    refine W_sq fun K hK => (W_draw (some none) none [(0, 0, 0), (0, 1, 0), (0, 2, 0), (0, 3, 0), (0, 4, 0), (0, 5, 0), (0, 6, 0), (0, 7, 0), (0, 8, 0), (0, 9, 0), (0, 10, 0), (0, 11, 0), (0, 12, 0), (0, 13, 0)] mixed (by kernel_rfl) ?_); simp only [↓List.toList_toArray, ↓rgd, ↓rgf, ↓reduceIte, Nat.reduceEqDiff, rg, ow_107, e0, e1, e2, ptr_eq, h0, hp, hb, hne]
    refine hK _ _ ?_; clear hK K
    refine W_false (by simp only [evt, upd_eq, Nat.reduceEqDiff, ↓reduceIte, ntT, ntF] <;> rfl) (W_skip ?_)
    show W _ _ _ _ _ _
    refine W_sq fun K hK => (W_text [true, true, true, true] (by kernel_rfl) ?_); simp only [↓List.toList_toArray, ↓rgd, ↓rgf, ↓reduceIte, Nat.reduceEqDiff, rg, ow_107, e1, hp, ptr_eq]
    refine hK _ _ ?_; clear hK K
    exact W_ret (endQ_1 (by simp only [upd_eq, Nat.reduceEqDiff, ↓reduceIte] <;> rfl) ⟨rfl, RO.dr _ _⟩)
  | false =>
    refine W_sq fun K hK => (W_draw (some none) none [(0, 0, 0), (0, 1, 0), (0, 2, 0), (0, 3, 0), (0, 4, 0), (0, 5, 0), (0, 6, 0), (0, 7, 0), (0, 8, 0), (0, 9, 0), (0, 10, 0), (0, 11, 0), (0, 12, 0), (0, 13, 0)] mixed (by kernel_rfl) ?_); simp only [↓List.toList_toArray, ↓rgd, ↓rgf, ↓reduceIte, Nat.reduceEqDiff, rg, ow_107, e0, e1, e2, ptr_eq, h0, hp, hb, hne]
    refine hK _ _ ?_; clear hK K
    refine W_false (by simp only [evt, upd_eq, Nat.reduceEqDiff, ↓reduceIte, ntT, ntF] <;> rfl) (W_skip ?_)
    show W _ _ _ _ _ _
    refine W_sq fun K hK => (W_text [true, true, true, true] (by kernel_rfl) ?_); simp only [↓List.toList_toArray, ↓rgd, ↓rgf, ↓reduceIte, Nat.reduceEqDiff, rg, ow_107, e1, hp, ptr_eq]
    refine hK _ _ ?_; clear hK K
    exact W_ret (endQ_1 (by simp only [upd_eq, Nat.reduceEqDiff, ↓reduceIte] <;> rfl) ⟨rfl, RO.dr _ _⟩)
set_option maxHeartbeats 400000 in
set_option maxRecDepth 8000 in
theorem count_leaf (b n cap : Nat) (a : Addr) (w : World) (h2 : rd w b 2 = some (.slice (some a) n cap)) (h3 : rd w b 3 = some (.pointer none)) (wb : wok w b 4) :
    CallK Try.prog 120 #[ptr b] w fun _ w' => Ext (rng b 1 1) w w' ∧ rd w' b 1 = some (.int .i64 n) ∧ w'.heap.size = w.heap.size := by
  refine calls_of_W [] Try.func120 rfl Try.ntmps120 Try.results120 (by simp) fun e he => ?_
  have e0 : e 0 = ptr b := he 0 _ rfl
  clear he
  refine W_sq fun K hK => (W_text [true, true, true, true, true, true, true, true, false] (by kernel_rfl) ?_); simp only [↓List.toList_toArray, ↓rgd, ↓rgf, ↓reduceIte, Nat.reduceEqDiff, rg, ow_120, e0, ptr_eq, h2]
  refine do_store (by simp only [evt, upd_eq, Nat.reduceEqDiff, ↓reduceIte, ntT, ntF] <;> rfl) (by simp only [evt, upd_eq, Nat.reduceEqDiff, ↓reduceIte, ntT, ntF] <;> rfl) sz_3 rfl wb (by decide) (oc_one rfl rfl) fun w1 x1 r1 s1 => ⟨trivial, ?_⟩
  simp only [↓List.toList_toArray, ↓rgd, ↓rgf, ↓reduceIte, Nat.reduceEqDiff, rg, ow_120]
  refine hK _ _ ?_; clear hK K
  have d3 := x1.rd h3 (by simp [rng])
  have d1 := (Row.cons.1 r1).1
  refine W_sq fun K hK => (W_text [true, false, true] (by kernel_rfl) ?_); simp only [↓List.toList_toArray, ↓rgd, ↓rgf, ↓reduceIte, Nat.reduceEqDiff, rg, ow_120, e0]
  refine do_call fn_108 rfl (by simpa only [evt, upd_eq, Nat.reduceEqDiff, ↓reduceIte, List.map_toArray, List.map_cons, List.map_nil] using leaf_any b none w1 d3) ?_
  rintro v w2 ⟨rfl, rfl⟩
  refine ⟨trivial, ?_⟩
  simp only [↓List.toList_toArray, ↓rgd, ↓rgf, ↓reduceIte, Nat.reduceEqDiff, rg, ow_120]
  refine hK _ _ ?_; clear hK K
  refine W_false (by simp only [evt, upd_eq, Nat.reduceEqDiff, ↓reduceIte, ntT, ntF] <;> rfl) (W_skip ?_)
  show endQ _ _ _ _ _ _
  exact endQ_0n ⟨x1, d1, s1⟩
end Go.Proofs.Ytdffddiaoheklaa
