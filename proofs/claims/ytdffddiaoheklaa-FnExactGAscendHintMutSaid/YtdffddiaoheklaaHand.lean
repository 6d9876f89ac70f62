/-
  Handing on the items of a list, one after the other, to a function that may end it; lists woven out of children and keys. Plain lists; no program. No condition.
-/
import Derived.Test.YtdffddiaoheklaaWeave
set_option linter.unusedSimpArgs false
set_option linter.unusedVariables false
namespace Go.Proofs.Ytdffddiaoheklaa
open Go
section
variable {α : Type} (go : List α → Bool)
/-- What has been handed on in the end, and whether the function wanted more. -/
def hand : List α → List α → List α × Bool
  | done, [] => (done, true)
  | done, x :: xs => if go (done ++ [x]) = true then hand (done ++ [x]) xs else (done ++ [x], false)
theorem hand_nil (done : List α) : hand go done [] = (done, true) := rfl
theorem hand_yes {done : List α} {x : α} (h : go (done ++ [x]) = true) (xs : List α) : hand go done (x :: xs) = hand go (done ++ [x]) xs := by simp [hand, h]
theorem hand_no {done : List α} {x : α} (h : go (done ++ [x]) = false) (xs : List α) : hand go done (x :: xs) = (done ++ [x], false) := by simp [hand, h]
theorem hand_append : ∀ (xs ys done : List α), hand go done (xs ++ ys) = if (hand go done xs).2 = true then hand go (hand go done xs).1 ys else hand go done xs
  | [], _, _ => by simp [hand]
  | x :: xs, ys, done => by
    simp only [List.cons_append, hand]
    split
    · exact hand_append xs ys _
    · rfl
theorem hand_on {xs done : List α} (h : (hand go done xs).2 = true) (ys : List α) : hand go done (xs ++ ys) = hand go (hand go done xs).1 ys := by rw [hand_append, if_pos h]
theorem hand_off {xs done : List α} (h : (hand go done xs).2 = false) (ys : List α) : hand go done (xs ++ ys) = hand go done xs := by rw [hand_append, if_neg (by simp [h])]
theorem hand_true : ∀ {xs done : List α}, (hand go done xs).2 = true → (hand go done xs).1 = done ++ xs
  | [], _, _ => by simp [hand]
  | x :: xs, done, h => by
    by_cases hg : go (done ++ [x]) = true
    · rw [hand_yes go hg] at h ⊢; rw [hand_true h]; simp
    · have hg' : go (done ++ [x]) = false := by simpa using hg
      rw [hand_no go hg'] at h; cases h
/-- A function that never ends it. -/
theorem hand_all (h : ∀ l, go l = true) : ∀ (xs done : List α), hand go done xs = (done ++ xs, true)
  | [], _ => by simp [hand]
  | x :: xs, done => by rw [hand_yes go (h _), hand_all h xs]; simp
/-- A function that ends it at the n-th item (never for n below 1). -/
def upTo (n : Int) (l : List α) : Bool := decide (n < 1) || decide ((l.length : Int) < n)
def firstN (n : Int) (xs : List α) : List α := if n < 1 ∨ (xs.length : Int) < n then xs else xs.take n.toNat
theorem firstN_length (n : Int) (xs : List α) : (firstN n xs).length ≤ xs.length := by unfold firstN; split <;> simp <;> omega
theorem hand_upTo (n : Int) : ∀ (xs done : List α), (n < 1 ∨ (done.length : Int) < n) → (hand (upTo n) done xs).1 = firstN n (done ++ xs)
  | [], done, h => by simp [hand, firstN, h]
  | x :: xs, done, h => by
    by_cases hg : upTo n (done ++ [x]) = true
    · rw [hand_yes _ hg, hand_upTo n xs (done ++ [x]) (by simpa [upTo] using hg)]
      simp
    · have hg' : upTo n (done ++ [x]) = false := by simpa using hg
      rw [hand_no _ hg']
      simp [upTo] at hg
      obtain ⟨h1, h2⟩ := hg
      have h3 : (done.length : Int) < n := by omega
      have h4 : n.toNat = done.length + 1 := by omega
      have h5 : ¬ (n < 1 ∨ ((done ++ x :: xs).length : Int) < n) := by simp; omega
      unfold firstN
      rw [if_neg h5, h4, List.take_append, List.take_of_length_le (by omega)]
      simp
theorem hand_upTo_nil (n : Int) (xs : List α) : (hand (upTo n) [] xs).1 = firstN n xs := by
  have := hand_upTo n xs [] (by simp; omega)
  simpa using this
theorem weave_step {cs : List (List α)} {ks : List α} {i : Nat} {c : List α} {k : α} (hc : cs[i]? = some c) (hk : ks[i]? = some k) : weave (cs.drop i) (ks.drop i) = c ++ k :: weave (cs.drop (i + 1)) (ks.drop (i + 1)) := by
  have h1 : cs.drop i = c :: cs.drop (i + 1) := by
    rw [List.drop_eq_getElem_cons (List.getElem?_eq_some_iff.1 hc).1, (List.getElem?_eq_some_iff.1 hc).2]
  have h2 : ks.drop i = k :: ks.drop (i + 1) := by
    rw [List.drop_eq_getElem_cons (List.getElem?_eq_some_iff.1 hk).1, (List.getElem?_eq_some_iff.1 hk).2]
  rw [h1, h2, weave]
theorem weave_last {cs : List (List α)} {ks : List α} {c : List α} (hl : cs.length = ks.length + 1) (hc : cs[ks.length]? = some c) : weave (cs.drop ks.length) (ks.drop ks.length) = c := by
  have h1 : cs.drop ks.length = [c] := by
    rw [List.drop_eq_getElem_cons (List.getElem?_eq_some_iff.1 hc).1, (List.getElem?_eq_some_iff.1 hc).2, List.drop_eq_nil_of_le (by omega)]
  rw [h1, List.drop_eq_nil_of_le (Nat.le_refl _), weave]
theorem weave_mem_length : ∀ (cs : List (List α)) (ks : List α), cs.length = ks.length + 1 → ∀ c ∈ cs, c.length ≤ (weave cs ks).length
  | [], _, h, _, _ => by simp at h
  | [c], [], _, d, hd => by simp at hd; subst hd; exact Nat.le_refl _
  | c :: e :: cs, k :: ks, h, d, hd => by
    rw [weave_cons, List.length_append, List.length_cons]
    rcases List.mem_cons.1 hd with rfl | hd
    · omega
    · have := weave_mem_length (e :: cs) ks (by simpa using h) d hd; omega
  | [_], _ :: _, h, _, _ => by simp at h
  | _ :: _ :: _, [], h, _, _ => by simp at h
end
end Go.Proofs.Ytdffddiaoheklaa
