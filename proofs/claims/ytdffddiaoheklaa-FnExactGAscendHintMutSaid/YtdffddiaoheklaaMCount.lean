/-
  A node's count: its items and what its children hold. No condition.
-/
import Derived.Test.YtdffddiaoheklaaMNew
set_option linter.unusedSimpArgs false
set_option linter.unusedVariables false
namespace Go.Proofs.Ytdffddiaoheklaa
open Go Go.Proofs
theorem ptr_at {w : World} {b o : Nat} {ps : List Nat} (h : Row w b o (ps.map ptr)) {i p : Nat} (hi : ps[i]? = some p) : rd w b (o + i) = some (ptr p) := h i _ (by simp [hi])
def cntP (cn : Nat → Nat) (ps : List Nat) : Nat := (ps.map cn).sum
theorem cntP_take (cn : Nat → Nat) (ps : List Nat) (i p : Nat) (h : ps[i]? = some p) : cntP cn (ps.take (i + 1)) = cntP cn (ps.take i) + cn p := by
  simp [cntP, List.take_add_one, h]
theorem cntP_le (cn : Nat → Nat) (ps : List Nat) (i : Nat) : cntP cn (ps.take i) ≤ cntP cn ps := by
  have : cntP cn ps = cntP cn (ps.take i) + cntP cn (ps.drop i) := by
    rw [cntP, cntP, cntP, ← List.sum_append, ← List.map_append, List.take_append_drop]
  omega
theorem ar_cong {P : Program} {f : Nat} {a b : Array Value} {w : World} {K : Value → World → Prop} (h : CallK P f b w K) (he : a = b) : CallK P f a w K := he ▸ h
set_option maxHeartbeats 400000 in
set_option maxRecDepth 8000 in
theorem count_kids (b n cap bc ba oa capc : Nat) (a : Addr) (ps : List Nat) (cn : Nat → Nat) (w : World) (h2 : rd w b 2 = some (.slice (some a) n cap)) (h3 : rd w b 3 = some (ptr bc)) (wb : wok w b 4)
    (hk : Kids w bc ba oa capc ps) (hbc : bc ≠ b) (hba : ba ≠ b) (hps : ∀ p ∈ ps, rd w p 1 = some (.int .i64 (cn p)) ∧ p ≠ b) (hbig : n + cntP cn ps < 4611686018427387904) (hpl : ps.length < 4611686018427387904) :
    CallK Try.prog 120 #[ptr b] w fun _ w' => Ext (rng b 1 1) w w' ∧ rd w' b 1 = some (.int .i64 (n + cntP cn ps : Nat)) ∧ w'.heap.size = w.heap.size := by
  refine calls_of_W [] Try.func120 rfl Try.ntmps120 Try.results120 (by simp) fun e he => ?_
  have e0 : e 0 = ptr b := he 0 _ rfl
  clear he
  refine W_sq fun K hK => (W_text [true, true, true, true, true, true, true, true, false] (by kernel_rfl) ?_); simp only [↓List.toList_toArray, ↓rgd, ↓rgf, ↓reduceIte, Nat.reduceEqDiff, rg, ow_120, e0, ptr_eq, h2]
  refine do_store (by simp only [evt, upd_eq, Nat.reduceEqDiff, ↓reduceIte, ntT, ntF] <;> rfl) (by simp only [evt, upd_eq, Nat.reduceEqDiff, ↓reduceIte, ntT, ntF] <;> rfl) sz_3 rfl wb (by decide) (oc_one rfl rfl) fun w1 x1 r1 s1 => ⟨trivial, ?_⟩
  simp only [↓List.toList_toArray, ↓rgd, ↓rgf, ↓reduceIte, Nat.reduceEqDiff, rg, ow_120]
  refine hK _ _ ?_; clear hK K
  have d3 := x1.rd h3 (by simp [rng])
  have d1 := (Row.cons.1 r1).1
  refine W_sq fun K hK => (W_text [true, false, true] (by kernel_rfl) ?_); simp only [↓List.toList_toArray, ↓rgd, ↓rgf, ↓reduceIte, Nat.reduceEqDiff, rg, ow_120, e0]
  refine do_call fn_108 (by simp only [evt, evc, upd_eq, Nat.reduceEqDiff, ↓reduceIte, maT, maC, maN]) (leaf_any b (some ⟨bc, 0, none⟩) w1 d3) ?_
  rintro v w2 ⟨rfl, rfl⟩
  refine ⟨trivial, ?_⟩
  simp only [↓List.toList_toArray, ↓rgd, ↓rgf, ↓reduceIte, Nat.reduceEqDiff, rg, ow_120]
  refine hK _ _ ?_; clear hK K
  refine W_true (by simp only [evt, upd_eq, Nat.reduceEqDiff, ↓reduceIte, ntT, ntF] <;> rfl) ?_
  refine W_sq fun K hK => (W_text [true] (by kernel_rfl) ?_); simp only [↓List.toList_toArray, ↓rgd, ↓rgf, ↓reduceIte, Nat.reduceEqDiff, rg, ow_120]
  refine hK _ _ ?_; clear hK K
  refine W_block (W_loop (fun m e w' => ∃ i : Nat, m = ps.length - i ∧ i ≤ ps.length ∧ e 0 = ptr b ∧ e 2 = .int .i64 i ∧ Ext (rng b 1 1) w w' ∧ rd w' b 1 = some (.int .i64 (n + cntP cn (ps.take i) : Nat)) ∧ w'.heap.size = w.heap.size)
    ps.length ⟨0, by simp, by simp, ?_, ?_, x1, ?_, s1⟩ ?_)
  · simp only [upd_eq, Nat.reduceEqDiff, ↓reduceIte]; exact e0
  · simp only [upd_eq, Nat.reduceEqDiff, ↓reduceIte]; rfl
  · rw [d1]; simp [cntP]
  · clear d1 r1 d3 x1 s1 e0 e
    rintro m e w' ⟨i, rfl, hi, e0, e2, x, d1, sz⟩
    have g0 := x.rd hk.c0 (by simp only [rng]; omega)
    have g3 := x.rd h3 (by simp [rng])
    refine W_seq ?_
    by_cases hlt : i < ps.length
    · have ht := lt_tt i ps.length hlt
      refine W_sq fun K hK => (W_text [true, true, true, true, true, true, true, true, true] (by kernel_rfl) ?_); simp only [↓List.toList_toArray, ↓rgd, ↓rgf, ↓reduceIte, Nat.reduceEqDiff, rg, ow_120, e0, e2, ptr_eq, g3, g0, ht]
      refine hK _ _ ?_; clear hK K
      refine W_true (by simp only [evt, upd_eq, Nat.reduceEqDiff, ↓reduceIte, ntT, ntF] <;> rfl) (W_skip ?_)
      show W _ _ _ _ _ _
      obtain ⟨p, hp⟩ : ∃ p, ps[i]? = some p := ⟨_, List.getElem?_eq_getElem hlt⟩
      obtain ⟨hp1, hpb⟩ := hps p (List.mem_of_getElem? hp)
      have g1 := x.rd hp1 (by simp only [rng]; omega)
      have ga := x.rd (ptr_at hk.row hp) (by simp only [rng]; omega)
      have ea := wadd (n + cntP cn (ps.take i)) (cn p) (by have := cntP_take cn ps i p hp; have := cntP_le cn ps (i + 1); omega)
      refine W_seq (W_block ?_)
      refine W_rg fun K hK => (W_draw (some none) (some 19) [(0, 0, 0), (0, 1, 0), (0, 2, 0), (0, 3, 0), (0, 4, 0), (0, 5, 0), (0, 6, 0), (0, 7, 0), (0, 8, 0), (0, 9, 0), (0, 10, 0), (0, 11, 0), (0, 12, 0), (0, 13, 0), (0, 14, 0), (0, 15, 0), (0, 16, 0), (0, 17, 0), (0, 18, 0), (1, 19, 0)] mixed (by kernel_rfl) ?_); simp only [↓List.toList_toArray, ↓rgd, ↓rgf, ↓reduceIte, Nat.reduceEqDiff, rg, ow_120, e0, e2, ptr_eq, d1, g3, g0, hlt, ga, g1, ea]
      refine do_store (by simp only [evt, upd_eq, Nat.reduceEqDiff, ↓reduceIte, ntT, ntF] <;> rfl) (by simp only [evt, upd_eq, Nat.reduceEqDiff, ↓reduceIte, ntT, ntF] <;> rfl) sz_3 rfl (x.wok wb) (by decide) (oc_one rfl rfl) fun w1 x1 r1 s1 => ⟨.inl trivial, ?_⟩
      simp only [↓List.toList_toArray, ↓rgd, ↓rgf, ↓reduceIte, Nat.reduceEqDiff, rg, ow_120]
      refine hK _ _ ?_; clear hK K
      show W _ _ _ _ _ _
      have e3 := wadd1 i (by omega)
      refine W_rg fun K hK => (W_text [true, true, true] (by kernel_rfl) ?_); simp only [↓List.toList_toArray, ↓rgd, ↓rgf, ↓reduceIte, Nat.reduceEqDiff, rg, ow_120, e2, e3]
      refine hK _ _ ?_; clear hK K
      refine ⟨_, ?_, i + 1, rfl, hlt, ?_, ?_, x.tr x1.od, ?_, by rw [s1]; exact sz⟩
      · omega
      · simp only [upd_eq, Nat.reduceEqDiff, ↓reduceIte]; exact e0
      · simp only [upd_eq, Nat.reduceEqDiff, ↓reduceIte]
      · rw [cntP_take cn ps i p hp, ← Nat.add_assoc]; exact (Row.cons.1 r1).1
    · obtain rfl : i = ps.length := by omega
      have ht := lt_ff ps.length ps.length (by omega)
      refine W_sq fun K hK => (W_text [true, true, true, true, true, true, true, true, true] (by kernel_rfl) ?_); simp only [↓List.toList_toArray, ↓rgd, ↓rgf, ↓reduceIte, Nat.reduceEqDiff, rg, ow_120, e0, e2, ptr_eq, g3, g0, ht]
      refine hK _ _ ?_; clear hK K
      refine W_false (by simp only [evt, upd_eq, Nat.reduceEqDiff, ↓reduceIte, ntT, ntF] <;> rfl) (W_exit ?_)
      simp only [andThen_exit, inBlk_exit, ↓reduceIte]
      exact endQ_0n ⟨x, by rw [d1, List.take_length], sz⟩
end Go.Proofs.Ytdffddiaoheklaa
