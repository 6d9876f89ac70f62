/-
  An element is put into a row of cells: append, copy, store. For whatever program. No condition.
-/
import Derived.Test.YtdffddiaoheklaaTree
set_option linter.unusedSimpArgs false
set_option linter.unusedVariables false
namespace Go.Proofs.Ytdffddiaoheklaa
open Go
/-- What an append of one element leaves, said of the slice. -/
theorem app_out {w w' : World} {sz n cap b o : Nat} {l l' : List Value} {v' : Value} (h : AppRes w sz (.slice (some ⟨b, o, none⟩) n cap) n 1 l l' v' w') (hw0 : wok w b (o + cap * sz)) :
    ∃ b' o' cap', v' = .slice (some ⟨b', o', none⟩) (n + 1) cap' ∧ n + 1 ≤ cap' ∧ Row w' b' o' (l ++ l') ∧ wok w' b' (o' + cap' * sz) ∧ Ext (fun y p => rng b (o + n * sz) sz y p ∧ n + 1 ≤ cap) w w' ∧
      (b' = b ∧ o' = o ∧ cap' = cap ∨ b' = w.heap.size) := by
  obtain ⟨hs, hc⟩ := h
  rcases hc with ⟨_, _, h3⟩ | ⟨b0, o0, cap0, h1, h2, h3, h4, h5⟩ | ⟨cap', h1, h2, h3, h4⟩
  · cases h3
  · simp only [Value.slice.injEq, Option.some.injEq, Addr.mk.injEq, true_and, and_true] at h1
    obtain ⟨⟨rfl, rfl⟩, rfl⟩ := h1
    subst h2
    rcases hs.2 with ⟨h, _⟩ | ⟨b1, o1, c1, h1, hle, hr, hw⟩
    · cases h
    · simp only [Value.slice.injEq, Option.some.injEq, Addr.mk.injEq, true_and, and_true] at h1
      obtain ⟨⟨rfl, rfl⟩, rfl⟩ := h1
      exact ⟨_, _, _, rfl, hle, hr, h3.wok hw0, by rw [Nat.one_mul] at h3; exact h3.mono fun _ _ _ g => ⟨g, h5⟩, .inl ⟨rfl, rfl, rfl⟩⟩
  · subst h1
    rcases hs.2 with ⟨h, _⟩ | ⟨b1, o1, c1, h1, hle, hr, hw⟩
    · cases h
    · simp only [Value.slice.injEq, Option.some.injEq, Addr.mk.injEq, true_and, and_true] at h1
      obtain ⟨⟨rfl, rfl⟩, rfl⟩ := h1
      exact ⟨_, _, _, rfl, hle, hr, by rw [Nat.zero_add]; exact h4, h2.mono fun _ _ _ h => h.elim, .inr rfl⟩
theorem slFrom_sl (b o sz l n c : Nat) : ∃ o', slFrom b o sz l n c = .slice (some ⟨b, o', none⟩) (n - l) (c - l) ∧ (c ≠ l → o' = o + l * sz) ∧ (c = l → o' = o) := by
  by_cases h : c = l
  · exact ⟨o, by simp [slFrom, h], fun hn => (hn h).elim, fun _ => rfl⟩
  · exact ⟨o + l * sz, by simp [slFrom, h], fun _ => rfl, fun hn => (h hn).elim⟩
/-- The row behind append, copy and store. -/
theorem ins_row {w w1 w2 w3 : World} {b o o1 sz n i : Nat} {L zc xc : List Value} (hL : L.length = n * sz) (hi : i ≤ n) (hr : Row w b o (L ++ zc)) (hx : xc.length = sz)
    (x1 : Ext (rng b o1 ((n - i) * sz)) w w1) (r1 : Row w1 b o1 (((L ++ zc).drop (i * sz)).take ((n - i) * sz))) (ho : i < n → o1 = o + (i + 1) * sz)
    (x2 : Ext (rng b (o + i * sz) sz) w1 w2) (r2 : Row w2 b (o + i * sz) xc) (x3 : Ext noF w2 w3) : Row w3 b o (L.take (i * sz) ++ (xc ++ L.drop (i * sz))) := by
  have hmul : i * sz ≤ n * sz := Nat.mul_le_mul_right _ hi
  have hsub : (n - i) * sz = n * sz - i * sz := Nat.sub_mul _ _ _
  have hp : (i + 1) * sz = i * sz + sz := by rw [Nat.add_mul, Nat.one_mul]
  have hlt : (L.take (i * sz)).length = i * sz := by rw [List.length_take]; omega
  refine x3.row ?_ fun _ _ h => h
  refine Row.append.2 ⟨?_, Row.append.2 ⟨by rw [hlt]; exact r2, ?_⟩⟩
  · have h0 : Row w b o (L.take (i * sz)) := by
      have := hr.take (i * sz)
      rwa [List.take_append_of_le_length (by omega)] at this
    refine x2.row (x1.row h0 fun j hj h => ?_) fun j hj h => ?_
    · rw [hlt] at hj
      simp only [rng] at h
      by_cases hin : i < n
      · have := ho hin; omega
      · have : n - i = 0 := by omega
        rw [this] at h; omega
    · rw [hlt] at hj; simp only [rng] at h; omega
  · rw [hlt, hx]
    by_cases hin : i < n
    · have e1 : ((L ++ zc).drop (i * sz)).take ((n - i) * sz) = L.drop (i * sz) := by
        rw [List.drop_append_of_le_length (by omega), List.take_append_of_le_length (by rw [List.length_drop]; omega), List.take_of_length_le (by rw [List.length_drop]; omega)]
      rw [e1, ho hin, hp, ← Nat.add_assoc] at r1
      exact x2.row r1 fun j hj h => by simp only [rng] at h; omega
    · have : L.drop (i * sz) = [] := List.drop_eq_nil_of_le (by have : i = n := by omega
                                                                subst this; omega)
      rw [this]; exact Row.nil _ _ _
/-- The same, where the new element lands one behind the place from which the copy was made. -/
theorem ins_row1 {w w1 w2 w3 : World} {b o o1 sz n i : Nat} {L zc xc : List Value} (hL : L.length = n * sz) (hi : i < n) (hr : Row w b o (L ++ zc)) (hx : xc.length = sz)
    (x1 : Ext (rng b o1 ((n - i) * sz)) w w1) (r1 : Row w1 b o1 (((L ++ zc).drop (i * sz)).take ((n - i) * sz))) (ho : o1 = o + (i + 1) * sz)
    (x2 : Ext (rng b (o + (i + 1) * sz) sz) w1 w2) (r2 : Row w2 b (o + (i + 1) * sz) xc) (x3 : Ext noF w2 w3) : Row w3 b o (L.take ((i + 1) * sz) ++ (xc ++ L.drop ((i + 1) * sz))) := by
  have hmul : (i + 1) * sz ≤ n * sz := Nat.mul_le_mul_right _ hi
  have hsub : (n - i) * sz = n * sz - i * sz := Nat.sub_mul _ _ _
  have hp : (i + 1) * sz = i * sz + sz := by rw [Nat.add_mul, Nat.one_mul]
  have hlt : (L.take ((i + 1) * sz)).length = (i + 1) * sz := by rw [List.length_take]; omega
  refine x3.row ?_ fun _ _ h => h
  refine Row.append.2 ⟨?_, Row.append.2 ⟨by rw [hlt]; exact r2, ?_⟩⟩
  · have h0 : Row w b o (L.take ((i + 1) * sz)) := by
      have := hr.take ((i + 1) * sz)
      rwa [List.take_append_of_le_length (by omega)] at this
    refine x2.row (x1.row h0 fun j hj h => ?_) fun j hj h => ?_
    · rw [hlt] at hj; simp only [rng] at h; omega
    · rw [hlt] at hj; simp only [rng] at h; omega
  · rw [hlt, hx]
    have e1 : ((L ++ zc).drop (i * sz)).take ((n - i) * sz) = L.drop (i * sz) := by
      rw [List.drop_append_of_le_length (by omega), List.take_append_of_le_length (by rw [List.length_drop]; omega), List.take_of_length_le (by rw [List.length_drop]; omega)]
    rw [e1, ho] at r1
    have h1 := r1.drop sz
    rw [List.drop_drop, ← hp] at h1
    exact x2.row h1 fun j hj h => by simp only [rng] at h; omega
end Go.Proofs.Ytdffddiaoheklaa
