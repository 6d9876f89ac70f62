/-
  Items as a program's cells; the list that a map holds behind the settings. No condition.
-/
import Derived.Test.YtinpigpeoakeaaaMI
set_option linter.unusedSimpArgs false
set_option linter.unusedVariables false
namespace Go.Proofs.Ytinpigpeoakeaaa
open Go Go.Proofs
/-- A list's items as a program's cells: key, then value. -/
def Ei : Enc It where
  cel x := [.string x.1, .int .i64 x.2]
  sz := 2
  len _ := rfl
  one x v hv := by simp at hv; rcases hv with rfl | rfl <;> rfl
  pos := by decide
theorem Ei_sz : Ei.sz = 2 := rfl
def iV (x : It) : Value := .agg #[.string x.1, .int .i64 x.2]
/-- The list that a map holds behind the settings. -/
def tree (l : List It) : List It := l.foldl (fun xs x => put O κ x xs) []
theorem tree_succ (l : List It) (i : Nat) (x : It) (h : l[i]? = some x) : tree (l.take (i + 1)) = put O κ x (tree (l.take i)) := by
  rw [List.take_add_one, h]; simp [tree]
theorem tree_len (l : List It) : (tree l).length ≤ l.length := by
  have : ∀ (l : List It) (xs : List It), (l.foldl (fun xs x => put O κ x xs) xs).length ≤ xs.length + l.length := by
    intro l
    induction l with
    | nil => intro xs; simp
    | cons x l ih => intro xs; have h1 := ih (put O κ x xs); have h2 := put_length O κ x xs; simp only [List.foldl_cons, List.length_cons]; split at h2 <;> omega
  have h := this l []
  simp only [List.length_nil, Nat.zero_add] at h
  exact h
theorem put_nil (x : It) : put O κ x [] = [x] := rfl
theorem z_item : zK Try.prog 31 = some [.string ByteArray.empty, .int .i64 0] := by kernel_rfl
theorem iV_at {w : World} {b o : Nat} {l : List It} (h : Row w b o (flat Ei l)) {i : Nat} {x : It} (hi : l[i]? = some x) : rdA w b (o + i * 2) 2 = some (iV x) :=
  (row_at Ei h hi).rdA 2 (by simp [Ei])
/-- A list of items as a slice. -/
def SlI (w : World) (v : Value) (l : List It) : Prop := SlV w 2 v l.length (flat Ei l)
theorem bu_item (a : ByteArray) (b : Int) : buildV Try.prog 31 [(0, .string a), (1, .int .i64 b)] = some (iV (a, b)) := by kernel_rfl
end Go.Proofs.Ytinpigpeoakeaaa
