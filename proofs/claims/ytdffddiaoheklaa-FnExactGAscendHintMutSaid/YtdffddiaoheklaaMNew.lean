/-
  A new node of a tree. No condition.
-/
import Derived.Test.YtdffddiaoheklaaMNode
set_option linter.unusedSimpArgs false
set_option linter.unusedVariables false
namespace Go.Proofs.Ytdffddiaoheklaa
open Go Go.Proofs
theorem bu_node (iso : Int) : buildV Try.prog 116 [(0, .int .u64 iso)] = some (.agg #[.int .u64 iso, .int .i64 0, .slice none 0 0, .pointer none]) := by kernel_rfl
set_option maxHeartbeats 400000 in
set_option maxRecDepth 8000 in
theorem newNode_any (m : Nat) (lf : Bool) (iso : Int) (w : World) (h0 : rd w m 0 = some (.int .u64 iso)) :
    CallK Try.prog 117 #[ptr m, .bool lf] w fun v w' => ∃ b, v = ptr b ∧ Ext noF w w' ∧ NewN w' w.heap.size b iso lf := by
  refine calls_of_W [.tmp 4] Try.func117 rfl Try.ntmps117 Try.results117 (by simp) fun e he => ?_
  have e0 : e 0 = ptr m := he 0 _ rfl
  have e1 : e 1 = .bool lf := he 1 _ rfl
  clear he
  refine W_sq fun K hK => (W_text [true] (by kernel_rfl) ?_); simp only [↓List.toList_toArray, ↓rgd, ↓rgf, ↓reduceIte, Nat.reduceEqDiff, rg, ow_117]
  refine hK _ _ ?_; clear hK K
  refine W_sq fun K hK => (W_text [true, true, true, true, true, false, true] (by kernel_rfl) ?_); simp only [↓List.toList_toArray, ↓rgd, ↓rgf, ↓reduceIte, Nat.reduceEqDiff, rg, ow_117, e0, ptr_eq, h0, bu_node]
  refine do_box (by simp only [evt, upd_eq, Nat.reduceEqDiff, ↓reduceIte, ntT, ntF] <;> rfl) fun w2 n1 => ⟨trivial, ?_⟩
  simp only [↓List.toList_toArray, ↓rgd, ↓rgf, ↓reduceIte, Nat.reduceEqDiff, rg, ow_117]
  refine hK _ _ ?_; clear hK K
  have r1 : Row w2 w.heap.size 0 [.int .u64 iso, .int .i64 0, .slice none 0 0, .pointer none] := n1.row
  simp only [Row.cons] at r1
  obtain ⟨d0, d1, d2, d3, -⟩ := r1
  have hm := rd_lt h0
  have dw : wok w2 w.heap.size 4 := n1.wok
  have X2 : Ext noF w w2 := n1.ext
  refine W_seq ?_
  refine W_sq fun K hK => (W_text [true, true] (by kernel_rfl) ?_); simp only [↓List.toList_toArray, ↓rgd, ↓rgf, ↓reduceIte, Nat.reduceEqDiff, rg, ow_117, e1]
  refine hK _ _ ?_; clear hK K
  cases lf with
  | true =>
    refine W_false (by simp only [evt, upd_eq, Nat.reduceEqDiff, ↓reduceIte, ntT, ntF] <;> rfl) (W_skip ?_)
    show W _ _ _ _ _ _
    refine W_sq fun K hK => (W_text [true, true] (by kernel_rfl) ?_); simp only [↓List.toList_toArray, ↓rgd, ↓rgf, ↓reduceIte, Nat.reduceEqDiff, rg, ow_117]
    refine hK _ _ ?_; clear hK K
    refine W_ret (endQ_1 (by simp only [upd_eq, Nat.reduceEqDiff, ↓reduceIte] <;> rfl) ⟨_, rfl, X2, ⟨Nat.le_refl _, d0, d1, d2, dw, fun _ => d3, (fun h => by cases h)⟩⟩)
  | false =>
    refine W_true (by simp only [evt, upd_eq, Nat.reduceEqDiff, ↓reduceIte, ntT, ntF] <;> rfl) ?_
    refine W_rg fun K hK => (W_text [true, false, true, true, false] (by kernel_rfl) ?_); simp only [↓List.toList_toArray, ↓rgd, ↓rgf, ↓reduceIte, Nat.reduceEqDiff, rg, ow_117]
    refine do_alloc z_kids fun w3 n3 => ⟨trivial, ?_⟩
    simp only [↓List.toList_toArray, ↓rgd, ↓rgf, ↓reduceIte, Nat.reduceEqDiff, rg, ow_117]
    have hs : w2.heap.size = w.heap.size + 1 := n1.size
    refine do_store (by simp only [evt, upd_eq, Nat.reduceEqDiff, ↓reduceIte, ntT, ntF] <;> rfl) (by simp only [evt, upd_eq, Nat.reduceEqDiff, ↓reduceIte, ntT, ntF] <;> rfl) sz_114 rfl (n3.ext.wok dw) (by decide) (oc_one rfl rfl) fun w4 x4 r4 s4 => ⟨trivial, ?_⟩
    simp only [↓List.toList_toArray, ↓rgd, ↓rgf, ↓reduceIte, Nat.reduceEqDiff, rg, ow_117]
    refine hK _ _ ?_; clear hK K
    show W _ _ _ _ _ _
    refine W_sq fun K hK => (W_text [true, true] (by kernel_rfl) ?_); simp only [↓List.toList_toArray, ↓rgd, ↓rgf, ↓reduceIte, Nat.reduceEqDiff, rg, ow_117]
    refine hK _ _ ?_; clear hK K
    have X4 : Ext noF w w4 := noF_of (X2.tr n3.ext) x4 fun x o hx h => by simp only [rng] at h; omega
    refine W_ret (endQ_1 (by simp only [upd_eq, Nat.reduceEqDiff, ↓reduceIte] <;> rfl) ⟨_, rfl, X4, ⟨Nat.le_refl _, x4.rd (n3.ext.rd d0 (fun h => h)) (by simp [rng]), x4.rd (n3.ext.rd d1 (fun h => h)) (by simp [rng]), x4.rd (n3.ext.rd d2 (fun h => h)) (by simp [rng]),
      x4.wok (n3.ext.wok dw), (fun h => by cases h), fun _ => ⟨w2.heap.size, (Row.cons.1 r4).1, by omega, by omega, x4.rd (Row.cons.1 n3.row).1 (by simp [rng] <;> omega), x4.wok n3.wok⟩⟩⟩)
end Go.Proofs.Ytdffddiaoheklaa
